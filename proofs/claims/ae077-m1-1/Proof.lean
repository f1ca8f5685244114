import JvmDerived
import JvmDerived.Pilot.@@N@@Statement
import JvmDerived.Pilot.@@N@@Code
set_option linter.unusedVariables false
set_option linter.unusedSimpArgs false
namespace Jvm.RoadKit
open Sem ClassFile Op Lib Jvm.Stand Jvm.Free Jvm.LawKit
section New
variable {p : Program} {l : Launch} {e : Env} {R : Room} {s : State} {m : MethodId} {args : Array Value} {below : List Frame} {meth : Method} {c : Code} {T : State} {locs : List Loc} {cells slots : Nat}
theorem retI (X : Stand p l e R s m args below meth c T locs cells slots) (hx : p.tables.exec = Jvm.exec) {pc : Nat} {Ls : Array Slot} {z : Int32} {rest : List Value} (hret : meth.sig.returnType = some .int) (hd : decode c.code pc = .ok (.ireturn, 1)) {fs : List Frame}
    (hl : ∀ (f : JFrame) (acts : List Action), f.method = m → f.locked = none → f.entered = [] → (doReturn e (T.setTop f) acts (some (.int z))).1 = T.setFrames fs) : Steps p.tables e below (T.setTop (mkF m pc Ls (.int z :: rest))) (T.setFrames fs) := by
  have hm' : T.vm.method? m = some meth := X.method'
  have hn : narrow .int (.int z) = .int z := rfl
  show Steps p.tables e below (T.setTop { method := m, pc := pc, locals := Ls, stack := _ :: rest, locked := none }) _
  jvm_step X.here [X.here.top, hx, hd, hm', hret, hn]
  first | (intro acts; rw [hl _ acts rfl rfl rfl]) | rw [hl _ _ rfl rfl rfl]
  exact Steps.refl _
theorem retJ (X : Stand p l e R s m args below meth c T locs cells slots) (hx : p.tables.exec = Jvm.exec) {pc : Nat} {Ls : Array Slot} {z : Int64} {rest : List Value} (hret : meth.sig.returnType = some .long) (hd : decode c.code pc = .ok (.lreturn, 1)) {fs : List Frame}
    (hl : ∀ (f : JFrame) (acts : List Action), f.method = m → f.locked = none → f.entered = [] → (doReturn e (T.setTop f) acts (some (.long z))).1 = T.setFrames fs) : Steps p.tables e below (T.setTop (mkF m pc Ls (.long z :: rest))) (T.setFrames fs) := by
  have hm' : T.vm.method? m = some meth := X.method'
  have hn : narrow .long (.long z) = .long z := rfl
  show Steps p.tables e below (T.setTop { method := m, pc := pc, locals := Ls, stack := _ :: rest, locked := none }) _
  jvm_step X.here [X.here.top, hx, hd, hm', hret, hn]
  first | (intro acts; rw [hl _ acts rfl rfl rfl]) | rw [hl _ _ rfl rfl rfl]
  exact Steps.refl _
end New
end Jvm.RoadKit
@@BLOCK:NumsL.lean.txt@@
namespace Jvm.Pilot.@@N@@
open Jvm Jvm.ClassFile Sem Op Lib Jvm.Free Jvm.Stand Jvm.LawKit Jvm.RoadKit Bundle Jvm.Pilot.@@N@@.Jvm.D
/-- the run comes from A to B -/
abbrev own_Go (p : Program) (e : Env) (below : List Frame) (A B : State) : Prop := ∀ t, Steps p.tables e below B t → Steps p.tables e below A t
/-! byte arrays as plain functions of the place -/
def own_up (B : Nat → Int32) (i : Nat) (v : Int32) : Nat → Int32 := fun j => if j = i then v else B j
def own_By (Z : State) (h : Heap) (a : Addr) (n : Nat) (B : Nat → Int32) : Prop := ∃ c : Cell, Arr Z h a c .byte ∧ c.slots.size = n ∧ ∀ i, i < n → c.slots[i]? = some (.int (B i))
section By
variable {Z : State} {h h' : Heap} {a b : Addr} {n sl : Nat} {B : Nat → Int32} {v : Value} {ws : List Addr}
theorem own_By.lt (F : own_By Z h a n B) : a < h.size := by obtain ⟨c, A, -⟩ := F; exact A.lt
theorem own_By.ext (F : own_By Z h a n B) (E : Ext h h') : own_By Z h' a n B := by obtain ⟨c, A, r⟩ := F; exact ⟨c, A.ext E, r⟩
theorem own_By.other (F : own_By Z h a n B) (W : Wr h h' b sl v) (q : a ≠ b) : own_By Z h' a n B := by obtain ⟨c, A, r⟩ := F; exact ⟨c, A.other W q, r⟩
theorem own_By.keep (F : own_By Z h a n B) (K : Keep h h' ws) (q : a ∉ ws) : own_By Z h' a n B := by obtain ⟨c, A, r⟩ := F; exact ⟨c, ⟨K.2.1 a c A.1 q, A.2⟩, r⟩
theorem own_By.new {k : ClassId} {z : Int32} (A : Arr Z h a (newA k .byte z) .byte) (hz : z.toNatClampNeg = n) : own_By Z h a n (fun _ => 0) :=
  ⟨_, A, by rw [sz_new, hz], fun i hi => by simp [newA, hz, hi, defaultValue]⟩
theorem own_By.set (F : own_By Z h a n B) {i : Nat} {x : Int32} (W : Wr h h' a i (.int x)) (hi : i < n) : own_By Z h' a n (own_up B i x) := by
  obtain ⟨c, A, S, H⟩ := F
  refine ⟨c.setSlot i (.int x), A.same W, by rw [sz_set, S], fun j hj => ?_⟩
  unfold own_up
  by_cases e : j = i
  · subst e; rw [if_pos rfl]; simp [Cell.setSlot, S, hj]
  · rw [if_neg e]; show (c.slots.setIfInBounds i (.int x))[j]? = _; rw [Array.getElem?_setIfInBounds_ne (Ne.symm e)]; exact H j hj
variable {p : Program} {l : Launch} {e : Env} {R : Room} {s : State} {m : MethodId} {args : Array Value} {below : List Frame} {meth : Method} {c : Code} {T : State} {locs : List Loc} {cells slots : Nat}
theorem own_bst (X : Stand p l e R s m args below meth c T locs cells slots) (hx : p.tables.exec = Jvm.exec) (hZ : Z.Warmed39 s.vm) (eT : T.heap = h) (F : own_By Z h a n B) {j x : Int32} (hj0 : ¬ j < 0) (hj1 : j.toNatClampNeg < n) {g : JFrame} (hg : g.method = m) {rest : List Value} (hs : g.stack = .int x :: .int j :: .ref a :: rest) (hd : decode c.code g.pc = .ok (.bastore, 1)) :
    ∃ T' h', Stand p l e R s m args below meth c T' (locs ++ [⟨a, j.toNatClampNeg⟩]) cells slots ∧ T'.heap = h' ∧ Wr h h' a j.toNatClampNeg (.int x.toInt8.toInt32) ∧ own_By Z h' a n (own_up B j.toNatClampNeg x.toInt8.toInt32) ∧ ∀ target, Steps p.tables e below (T'.setTop { g with pc := g.pc + 1, stack := rest }) target → Steps p.tables e below (T.setTop g) target := by
  obtain ⟨cl, A, S, H⟩ := F
  obtain ⟨T', h', X', e', W, st⟩ := stB X hx hZ eT A (j := j) (fun q => q.elim hj0 fun r => absurd hj1 (by rw [← S]; omega)) hg hs hd
  exact ⟨T', h', X', e', W, own_By.set ⟨cl, A, S, H⟩ W hj1, st⟩
theorem own_bld (X : Stand p l e R s m args below meth c T locs cells slots) (hx : p.tables.exec = Jvm.exec) (hZ : Z.Warmed39 s.vm) (eT : T.heap = h) (F : own_By Z h a n B) {j : Int32} (hj0 : ¬ j < 0) (hj1 : j.toNatClampNeg < n) {g : JFrame} (hg : g.method = m) {rest : List Value} (hs : g.stack = .int j :: .ref a :: rest) (hd : decode c.code g.pc = .ok (.baload, 1)) :
    ∀ target, Steps p.tables e below (T.setTop { g with pc := g.pc + 1, stack := .int (B j.toNatClampNeg) :: rest }) target → Steps p.tables e below (T.setTop g) target := by
  obtain ⟨cl, A, S, H⟩ := F
  intro target hr
  exact X.baloadBytes hx (j := j) (v := .int (B j.toNatClampNeg)) (by rw [eT]; exact A.1) (State.isArrayOf_alike hZ.alike A.2.1) A.2.2 (fun q => q.elim hj0 fun r => absurd hj1 (by rw [← S]; omega)) (H _ hj1) hg hs hd target hr
end By

/-! places inside -/
theorem own_i0 {p : Int32} (h : ∃ n, n < 8 ∧ p = Int32.ofNat n) : ¬ p < 0 ∧ p.toNatClampNeg < 14 := by
  obtain ⟨n, hn, rfl⟩ := h; revert hn; revert n; decide
theorem own_i1 {p : Int32} (h : ∃ n, n < 8 ∧ p = Int32.ofNat n) : ¬ (p + (1 : Int32)) < 0 ∧ ((p + (1 : Int32))).toNatClampNeg < 14 := by
  obtain ⟨n, hn, rfl⟩ := h; revert hn; revert n; decide
theorem own_i2 {p : Int32} (h : ∃ n, n < 8 ∧ p = Int32.ofNat n) : ¬ (p + (2 : Int32)) < 0 ∧ ((p + (2 : Int32))).toNatClampNeg < 14 := by
  obtain ⟨n, hn, rfl⟩ := h; revert hn; revert n; decide
theorem own_i3 {p : Int32} (h : ∃ n, n < 8 ∧ p = Int32.ofNat n) : ¬ (p + (3 : Int32)) < 0 ∧ ((p + (3 : Int32))).toNatClampNeg < 14 := by
  obtain ⟨n, hn, rfl⟩ := h; revert hn; revert n; decide
theorem own_i4 {p : Int32} (h : ∃ n, n < 8 ∧ p = Int32.ofNat n) : ¬ (p + (4 : Int32)) < 0 ∧ ((p + (4 : Int32))).toNatClampNeg < 14 := by
  obtain ⟨n, hn, rfl⟩ := h; revert hn; revert n; decide
theorem own_i5 {p : Int32} (h : ∃ n, n < 8 ∧ p = Int32.ofNat n) : ¬ (p + (5 : Int32)) < 0 ∧ ((p + (5 : Int32))).toNatClampNeg < 14 := by
  obtain ⟨n, hn, rfl⟩ := h; revert hn; revert n; decide
theorem own_nat {x : Int32} {k : Int} (e : x.toInt = k) (h0 : 0 ≤ k) : ¬ x < 0 ∧ x.toNatClampNeg = k.toNat := by
  refine ⟨?_, by show x.toInt.toNat = _; rw [e]⟩
  rw [Int32.lt_iff_toInt_lt, e, show (0 : Int32).toInt = 0 from rfl]; omega
theorem own_s1 {p : Int32} : (p >>> ((12 : Int32) &&& 31)).toInt = p.toInt / 4096 := Jvm.Kit.i32_shr p _ (k := 12) (by decide)
theorem own_s2 {p : Int32} : (((p >>> ((8 : Int32) &&& 31)) &&& (15 : Int32))).toInt = p.toInt / 256 % 16 := by
  rw [Jvm.Kit.i32_mask _ 15 (k := 4) (by decide) (by decide), Jvm.Kit.i32_shr p _ (k := 8) (by decide)]; rfl
theorem own_s3 {p : Int32} : (((p >>> ((4 : Int32) &&& 31)) &&& (15 : Int32))).toInt = p.toInt / 16 % 16 := by
  rw [Jvm.Kit.i32_mask _ 15 (k := 4) (by decide) (by decide), Jvm.Kit.i32_shr p _ (k := 4) (by decide)]; rfl
theorem own_s4 {p : Int32} : ((p &&& (15 : Int32))).toInt = p.toInt % 16 := Jvm.Kit.i32_mask _ 15 (k := 4) (by decide) (by decide)
theorem own_h1 {p : Int32} (hc : 0 ≤ p.toInt ∧ p.toInt < 65536) : ¬ (p >>> ((12 : Int32) &&& 31)) < 0 ∧ ((p >>> ((12 : Int32) &&& 31))).toNatClampNeg < 16 := by
  obtain ⟨a, b⟩ := own_nat (own_s1 (p := p)) (by omega); exact ⟨a, by rw [b]; omega⟩
theorem own_h2 {p : Int32} (hc : 0 ≤ p.toInt ∧ p.toInt < 65536) : ¬ ((p >>> ((8 : Int32) &&& 31)) &&& (15 : Int32)) < 0 ∧ (((p >>> ((8 : Int32) &&& 31)) &&& (15 : Int32))).toNatClampNeg < 16 := by
  obtain ⟨a, b⟩ := own_nat (own_s2 (p := p)) (by omega); exact ⟨a, by rw [b]; omega⟩
theorem own_h3 {p : Int32} (hc : 0 ≤ p.toInt ∧ p.toInt < 65536) : ¬ ((p >>> ((4 : Int32) &&& 31)) &&& (15 : Int32)) < 0 ∧ (((p >>> ((4 : Int32) &&& 31)) &&& (15 : Int32))).toNatClampNeg < 16 := by
  obtain ⟨a, b⟩ := own_nat (own_s3 (p := p)) (by omega); exact ⟨a, by rw [b]; omega⟩
theorem own_h4 {p : Int32} (hc : 0 ≤ p.toInt ∧ p.toInt < 65536) : ¬ (p &&& (15 : Int32)) < 0 ∧ ((p &&& (15 : Int32))).toNatClampNeg < 16 := by
  obtain ⟨a, b⟩ := own_nat (own_s4 (p := p)) (by omega); exact ⟨a, by rw [b]; omega⟩
theorem own_k6 (a b n : Int32) (hn : n.toInt ≤ 6) (h1 : ¬ ((a - b) < (0 : Int32))) (h2 : (a - b) < n) : ¬ (a - b) < 0 ∧ (a - b).toNatClampNeg < 6 := by
  refine ⟨h1, ?_⟩
  rw [Int32.lt_iff_toInt_lt] at h2
  show (a - b).toInt.toNat < 6
  omega
theorem own_and7 (p : Int32) : ∃ n, n < 8 ∧ (p &&& (7 : Int32)) = Int32.ofNat n := by
  have e := Jvm.Kit.i32_mask p 7 (k := 3) (by decide) (by decide)
  refine ⟨(p &&& 7).toInt.toNat, by omega, ?_⟩
  apply Int32.toInt_inj.mp
  rw [Int32.toInt_ofNat_of_lt (by omega)]
  omega

theorem pn_0 : plainName "com/example/segmentry/segmentry/io/JsonTextEscapePinLaw" = true := by first | (simp [plainName, overriddenIn]; done) | decide +kernel
theorem d1_0 : decode method_3_code 0 = .ok (.iload_n 0, 1) := by decide +kernel
theorem d1_1 : decode method_3_code 1 = .ok (.bipush 10, 2) := by decide +kernel
theorem d1_3 : decode method_3_code 3 = .ok (.if_icmp .ge 10, 3) := by decide +kernel
theorem d1_6 : decode method_3_code 6 = .ok (.bipush 48, 2) := by decide +kernel
theorem d1_8 : decode method_3_code 8 = .ok (.iload_n 0, 1) := by decide +kernel
theorem d1_9 : decode method_3_code 9 = .ok (.iadd, 1) := by decide +kernel
theorem d1_10 : decode method_3_code 10 = .ok (.goto 7, 3) := by decide +kernel
theorem d1_13 : decode method_3_code 13 = .ok (.bipush 87, 2) := by decide +kernel
theorem d1_15 : decode method_3_code 15 = .ok (.iload_n 0, 1) := by decide +kernel
theorem d1_16 : decode method_3_code 16 = .ok (.iadd, 1) := by decide +kernel
theorem d1_17 : decode method_3_code 17 = .ok (.i2b, 1) := by decide +kernel
theorem d1_18 : decode method_3_code 18 = .ok (.ireturn, 1) := by decide +kernel
theorem ef_1 (m : MethodId) (p0 : Int32) : entryFrame m #[(.int p0)] 1 = mkF m 0 #[.val (.int p0)] [] := by first | (simp [entryFrame, mkF, argsToLocals, Value.category]; done) | rfl
def f1 (p0 : Int32) : Int32 := (if p0 < (10 : Int32) then ((((48 : Int32) + p0).toInt8.toInt32).toInt8.toInt32) else ((((87 : Int32) + p0).toInt8.toInt32).toInt8.toInt32))
def Q1 (Z : State) (p0 : Int32) (h0 : Heap) (n0 : Nat) (v : Option Value) (h : Heap) (L : List Loc) : Prop := v = some (.int (f1 p0)) ∧ Fr n0 L ∧ h = h0
set_option maxRecDepth 65536 in
set_option maxHeartbeats 40000000 in
theorem rm1 (l : Launch) (Z : State) (a0 : Array Value) (hw : ∀ d ∈ tables_1, d.before a0 Z = true) (ws : List Jvm.Cond) (p0 : Int32) (h0 : Heap) (n0 : Nat) (Z0 : n0 ≤ h0.size) :
    MetFree l (⟨"com/example/segmentry/segmentry/io/JsonTextEscapePinLaw", "hex", "(I)B"⟩ : MethodName) (head1 (Jvm.Cond.code (⟨"com/example/segmentry/segmentry/io/JsonTextEscapePinLaw", "hex", "(I)B"⟩ : MethodName) method_3_code 1 (some .byte) :: ws) ({ frames := 0, cells := 0, slots := 0, locals := 0 } : Room)) (fun a U => a = #[(.int p0)] ∧ Z.Warmed39 U.vm ∧ U.heap = h0) (fun _ _ _ _ _ => True) (fun _ U o U' => ∃ v L, o = .returned v ∧ Q1 Z p0 h0 n0 v U'.heap L ∧ FrameEnd U o U' L ({ frames := 0, cells := 0, slots := 0, locals := 0 } : Room).cells ({ frames := 0, cells := 0, slots := 0, locals := 0 } : Room).slots) := by
  refine MetFree.of_bodySF (plainFor_of_name pn_0) hisR ?_
  intro p e s m args below meth c s₁ Bd hml0 hP hK
  obtain ⟨rfl, hZ, hh⟩ := hP
  have hx := Bd.exec
  have hby := Bd.bytes
  have hml : c.maxLocals = 1 := hml0
  have hown : s.vm.findClass "com/example/segmentry/segmentry/io/JsonTextEscapePinLaw" = some m.cls := findClass_of_methodNamed Bd.named
  have hnm := (name_of_methodNamed Bd.named Bd.method).1
  have X0 : Stand p l e ({ frames := 0, cells := 0, slots := 0, locals := 0 } : Room) s m #[(.int p0)] below meth c s₁ [] 0 0 := Stand.of_body Bd
  have e0 : s₁.heap = h0 := by rw [← hh, Bd.state]; rfl
  have N0 := Fr.nil n0
  have pre0 : own_Go p e below (s₁.setTop (entryFrame m #[(.int p0)] 1)) (s₁.setTop (mkF m 0 #[.val (.int p0)] [])) := fun t k => castTop (ef_1 m p0) k
  have k1 : own_Go p e below (s₁.setTop (entryFrame m #[(.int p0)] 1)) (s₁.setTop (mkF m 3 #[.val (.int p0)] [(.int (10 : Int32)), (.int p0)])) := by
    intro t k
    refine pre0 t ?_
    show Steps p.tables e below (s₁.setTop (mkF m 0 #[.val (.int p0)] [])) t
    refine XS.iloadN X0.here hx rfl (hb hby d1_0) rfl ?_
    show Steps p.tables e below (s₁.setTop (mkF m 1 #[.val (.int p0)] [(.int p0)])) t
    refine XS.bipush X0.here hx rfl (hb hby d1_1) ?_
    exact k
  by_cases hc3_2 : p0 < (10 : Int32)
  · have k3 : own_Go p e below (s₁.setTop (entryFrame m #[(.int p0)] 1)) (s₁.setTop (mkF m 18 #[.val (.int p0)] [(.int (((48 : Int32) + p0).toInt8.toInt32))])) := by
      intro t k
      refine k1 t ?_
      show Steps p.tables e below (s₁.setTop (mkF m 3 #[.val (.int p0)] [(.int (10 : Int32)), (.int p0)])) t
      refine XS.icmpNo X0.here hx rfl (hb hby d1_3) rfl (tlt hc3_2).2.1 ?_
      show Steps p.tables e below (s₁.setTop (mkF m 6 #[.val (.int p0)] [])) t
      refine XS.bipush X0.here hx rfl (hb hby d1_6) ?_
      show Steps p.tables e below (s₁.setTop (mkF m 8 #[.val (.int p0)] [(.int (48 : Int32))])) t
      refine XS.iloadN X0.here hx rfl (hb hby d1_8) rfl ?_
      show Steps p.tables e below (s₁.setTop (mkF m 9 #[.val (.int p0)] [(.int p0), (.int (48 : Int32))])) t
      refine XS.iadd X0.here hx rfl (hb hby d1_9) rfl ?_
      show Steps p.tables e below (s₁.setTop (mkF m 10 #[.val (.int p0)] [(.int ((48 : Int32) + p0))])) t
      refine XS.goto X0.here hx rfl (pc0 := 10) (pc' := 17) rfl (hb hby d1_10) (by decide) (by decide) ?_
      show Steps p.tables e below (s₁.setTop (mkF m 17 #[.val (.int p0)] [(.int ((48 : Int32) + p0))])) t
      refine XS.i2b X0.here hx rfl (hb hby d1_17) rfl ?_
      exact k
    obtain ⟨fs, hr, hrun, hended, hW, hsame⟩ := X0.leave (v := some (.int ((((48 : Int32) + p0).toInt8.toInt32).toInt8.toInt32))) (fun h => by rw [Bd.returns] at h; cases h)
    refine ⟨_, _, k3 _ ?_, hrun, hended, _, _, rfl, ?_, ⟨_, rfl⟩, hW, hsame.mono (by decide) (by decide)⟩
    · exact retN X0 hx (t := .byte) Bd.returns (by simp) (hb hby d1_18) hr
    · show Q1 Z p0 h0 n0 _ s₁.heap _
      rw [e0]
      exact ⟨congrArg (fun z => some (Value.int z)) (show f1 p0 = ((((48 : Int32) + p0).toInt8.toInt32).toInt8.toInt32) from (by unfold f1; rw [if_pos hc3_2])).symm, N0, rfl⟩
  · have k4 : own_Go p e below (s₁.setTop (entryFrame m #[(.int p0)] 1)) (s₁.setTop (mkF m 18 #[.val (.int p0)] [(.int (((87 : Int32) + p0).toInt8.toInt32))])) := by
      intro t k
      refine k1 t ?_
      show Steps p.tables e below (s₁.setTop (mkF m 3 #[.val (.int p0)] [(.int (10 : Int32)), (.int p0)])) t
      refine XS.icmpYes X0.here hx rfl (pc0 := 3) (pc' := 13) rfl (hb hby d1_3) rfl (flt hc3_2).2.1 (by decide) (by decide) ?_
      show Steps p.tables e below (s₁.setTop (mkF m 13 #[.val (.int p0)] [])) t
      refine XS.bipush X0.here hx rfl (hb hby d1_13) ?_
      show Steps p.tables e below (s₁.setTop (mkF m 15 #[.val (.int p0)] [(.int (87 : Int32))])) t
      refine XS.iloadN X0.here hx rfl (hb hby d1_15) rfl ?_
      show Steps p.tables e below (s₁.setTop (mkF m 16 #[.val (.int p0)] [(.int p0), (.int (87 : Int32))])) t
      refine XS.iadd X0.here hx rfl (hb hby d1_16) rfl ?_
      show Steps p.tables e below (s₁.setTop (mkF m 17 #[.val (.int p0)] [(.int ((87 : Int32) + p0))])) t
      refine XS.i2b X0.here hx rfl (hb hby d1_17) rfl ?_
      exact k
    obtain ⟨fs, hr, hrun, hended, hW, hsame⟩ := X0.leave (v := some (.int ((((87 : Int32) + p0).toInt8.toInt32).toInt8.toInt32))) (fun h => by rw [Bd.returns] at h; cases h)
    refine ⟨_, _, k4 _ ?_, hrun, hended, _, _, rfl, ?_, ⟨_, rfl⟩, hW, hsame.mono (by decide) (by decide)⟩
    · exact retN X0 hx (t := .byte) Bd.returns (by simp) (hb hby d1_18) hr
    · show Q1 Z p0 h0 n0 _ s₁.heap _
      rw [e0]
      exact ⟨congrArg (fun z => some (Value.int z)) (show f1 p0 = ((((87 : Int32) + p0).toInt8.toInt32).toInt8.toInt32) from (by unfold f1; rw [if_neg hc3_2])).symm, N0, rfl⟩
theorem pn_1 : plainName "com/example/segmentry/segmentry/io/JsonText" = true := by first | (simp [plainName, overriddenIn]; done) | decide +kernel
theorem d2_0 : decode prog_25_method_3_code 0 = .ok (.iload_n 0, 1) := by decide +kernel
theorem d2_1 : decode prog_25_method_3_code 1 = .ok (.bipush 34, 2) := by decide +kernel
theorem d2_3 : decode prog_25_method_3_code 3 = .ok (.if_icmp .eq 9, 3) := by decide +kernel
theorem d2_6 : decode prog_25_method_3_code 6 = .ok (.iload_n 0, 1) := by decide +kernel
theorem d2_7 : decode prog_25_method_3_code 7 = .ok (.bipush 92, 2) := by decide +kernel
theorem d2_9 : decode prog_25_method_3_code 9 = .ok (.if_icmp .ne 19, 3) := by decide +kernel
theorem d2_12 : decode prog_25_method_3_code 12 = .ok (.aload_n 1, 1) := by decide +kernel
theorem d2_13 : decode prog_25_method_3_code 13 = .ok (.iload_n 2, 1) := by decide +kernel
theorem d2_14 : decode prog_25_method_3_code 14 = .ok (.bipush 92, 2) := by decide +kernel
theorem d2_16 : decode prog_25_method_3_code 16 = .ok (.bastore, 1) := by decide +kernel
theorem d2_17 : decode prog_25_method_3_code 17 = .ok (.aload_n 1, 1) := by decide +kernel
theorem d2_18 : decode prog_25_method_3_code 18 = .ok (.iload_n 2, 1) := by decide +kernel
theorem d2_19 : decode prog_25_method_3_code 19 = .ok (.iconst 1, 1) := by decide +kernel
theorem d2_20 : decode prog_25_method_3_code 20 = .ok (.iadd, 1) := by decide +kernel
theorem d2_21 : decode prog_25_method_3_code 21 = .ok (.iload_n 0, 1) := by decide +kernel
theorem d2_22 : decode prog_25_method_3_code 22 = .ok (.i2b, 1) := by decide +kernel
theorem d2_23 : decode prog_25_method_3_code 23 = .ok (.bastore, 1) := by decide +kernel
theorem d2_24 : decode prog_25_method_3_code 24 = .ok (.iload_n 2, 1) := by decide +kernel
theorem d2_25 : decode prog_25_method_3_code 25 = .ok (.iconst 2, 1) := by decide +kernel
theorem d2_26 : decode prog_25_method_3_code 26 = .ok (.iadd, 1) := by decide +kernel
theorem d2_27 : decode prog_25_method_3_code 27 = .ok (.ireturn, 1) := by decide +kernel
theorem d2_28 : decode prog_25_method_3_code 28 = .ok (.iload_n 0, 1) := by decide +kernel
theorem d2_29 : decode prog_25_method_3_code 29 = .ok (.bipush 32, 2) := by decide +kernel
theorem d2_31 : decode prog_25_method_3_code 31 = .ok (.if_icmp .lt 18, 3) := by decide +kernel
theorem d2_34 : decode prog_25_method_3_code 34 = .ok (.iload_n 0, 1) := by decide +kernel
theorem d2_35 : decode prog_25_method_3_code 35 = .ok (.bipush 126, 2) := by decide +kernel
theorem d2_37 : decode prog_25_method_3_code 37 = .ok (.if_icmp .gt 12, 3) := by decide +kernel
theorem d2_40 : decode prog_25_method_3_code 40 = .ok (.aload_n 1, 1) := by decide +kernel
theorem d2_41 : decode prog_25_method_3_code 41 = .ok (.iload_n 2, 1) := by decide +kernel
theorem d2_42 : decode prog_25_method_3_code 42 = .ok (.iload_n 0, 1) := by decide +kernel
theorem d2_43 : decode prog_25_method_3_code 43 = .ok (.i2b, 1) := by decide +kernel
theorem d2_44 : decode prog_25_method_3_code 44 = .ok (.bastore, 1) := by decide +kernel
theorem d2_45 : decode prog_25_method_3_code 45 = .ok (.iload_n 2, 1) := by decide +kernel
theorem d2_46 : decode prog_25_method_3_code 46 = .ok (.iconst 1, 1) := by decide +kernel
theorem d2_47 : decode prog_25_method_3_code 47 = .ok (.iadd, 1) := by decide +kernel
theorem d2_48 : decode prog_25_method_3_code 48 = .ok (.ireturn, 1) := by decide +kernel
theorem d2_49 : decode prog_25_method_3_code 49 = .ok (.iload_n 0, 1) := by decide +kernel
theorem d2_50 : decode prog_25_method_3_code 50 = .ok (.bipush 9, 2) := by decide +kernel
theorem d2_52 : decode prog_25_method_3_code 52 = .ok (.if_icmp .ne 19, 3) := by decide +kernel
theorem d2_55 : decode prog_25_method_3_code 55 = .ok (.aload_n 1, 1) := by decide +kernel
theorem d2_56 : decode prog_25_method_3_code 56 = .ok (.iload_n 2, 1) := by decide +kernel
theorem d2_57 : decode prog_25_method_3_code 57 = .ok (.bipush 92, 2) := by decide +kernel
theorem d2_59 : decode prog_25_method_3_code 59 = .ok (.bastore, 1) := by decide +kernel
theorem d2_60 : decode prog_25_method_3_code 60 = .ok (.aload_n 1, 1) := by decide +kernel
theorem d2_61 : decode prog_25_method_3_code 61 = .ok (.iload_n 2, 1) := by decide +kernel
theorem d2_62 : decode prog_25_method_3_code 62 = .ok (.iconst 1, 1) := by decide +kernel
theorem d2_63 : decode prog_25_method_3_code 63 = .ok (.iadd, 1) := by decide +kernel
theorem d2_64 : decode prog_25_method_3_code 64 = .ok (.bipush 116, 2) := by decide +kernel
theorem d2_66 : decode prog_25_method_3_code 66 = .ok (.bastore, 1) := by decide +kernel
theorem d2_67 : decode prog_25_method_3_code 67 = .ok (.iload_n 2, 1) := by decide +kernel
theorem d2_68 : decode prog_25_method_3_code 68 = .ok (.iconst 2, 1) := by decide +kernel
theorem d2_69 : decode prog_25_method_3_code 69 = .ok (.iadd, 1) := by decide +kernel
theorem d2_70 : decode prog_25_method_3_code 70 = .ok (.ireturn, 1) := by decide +kernel
theorem d2_71 : decode prog_25_method_3_code 71 = .ok (.aload_n 1, 1) := by decide +kernel
theorem d2_72 : decode prog_25_method_3_code 72 = .ok (.iload_n 2, 1) := by decide +kernel
theorem d2_73 : decode prog_25_method_3_code 73 = .ok (.bipush 92, 2) := by decide +kernel
theorem d2_75 : decode prog_25_method_3_code 75 = .ok (.bastore, 1) := by decide +kernel
theorem d2_76 : decode prog_25_method_3_code 76 = .ok (.aload_n 1, 1) := by decide +kernel
theorem d2_77 : decode prog_25_method_3_code 77 = .ok (.iload_n 2, 1) := by decide +kernel
theorem d2_78 : decode prog_25_method_3_code 78 = .ok (.iconst 1, 1) := by decide +kernel
theorem d2_79 : decode prog_25_method_3_code 79 = .ok (.iadd, 1) := by decide +kernel
theorem d2_80 : decode prog_25_method_3_code 80 = .ok (.bipush 117, 2) := by decide +kernel
theorem d2_82 : decode prog_25_method_3_code 82 = .ok (.bastore, 1) := by decide +kernel
theorem d2_83 : decode prog_25_method_3_code 83 = .ok (.aload_n 1, 1) := by decide +kernel
theorem d2_84 : decode prog_25_method_3_code 84 = .ok (.iload_n 2, 1) := by decide +kernel
theorem d2_85 : decode prog_25_method_3_code 85 = .ok (.iconst 2, 1) := by decide +kernel
theorem d2_86 : decode prog_25_method_3_code 86 = .ok (.iadd, 1) := by decide +kernel
theorem d2_87 : decode prog_25_method_3_code 87 = .ok (.getstatic 32, 3) := by decide +kernel
theorem d2_90 : decode prog_25_method_3_code 90 = .ok (.iload_n 0, 1) := by decide +kernel
theorem d2_91 : decode prog_25_method_3_code 91 = .ok (.bipush 12, 2) := by decide +kernel
theorem d2_93 : decode prog_25_method_3_code 93 = .ok (.ishr, 1) := by decide +kernel
theorem d2_94 : decode prog_25_method_3_code 94 = .ok (.baload, 1) := by decide +kernel
theorem d2_95 : decode prog_25_method_3_code 95 = .ok (.bastore, 1) := by decide +kernel
theorem d2_96 : decode prog_25_method_3_code 96 = .ok (.aload_n 1, 1) := by decide +kernel
theorem d2_97 : decode prog_25_method_3_code 97 = .ok (.iload_n 2, 1) := by decide +kernel
theorem d2_98 : decode prog_25_method_3_code 98 = .ok (.iconst 3, 1) := by decide +kernel
theorem d2_99 : decode prog_25_method_3_code 99 = .ok (.iadd, 1) := by decide +kernel
theorem d2_100 : decode prog_25_method_3_code 100 = .ok (.getstatic 32, 3) := by decide +kernel
theorem d2_103 : decode prog_25_method_3_code 103 = .ok (.iload_n 0, 1) := by decide +kernel
theorem d2_104 : decode prog_25_method_3_code 104 = .ok (.bipush 8, 2) := by decide +kernel
theorem d2_106 : decode prog_25_method_3_code 106 = .ok (.ishr, 1) := by decide +kernel
theorem d2_107 : decode prog_25_method_3_code 107 = .ok (.bipush 15, 2) := by decide +kernel
theorem d2_109 : decode prog_25_method_3_code 109 = .ok (.iand, 1) := by decide +kernel
theorem d2_110 : decode prog_25_method_3_code 110 = .ok (.baload, 1) := by decide +kernel
theorem d2_111 : decode prog_25_method_3_code 111 = .ok (.bastore, 1) := by decide +kernel
theorem d2_112 : decode prog_25_method_3_code 112 = .ok (.aload_n 1, 1) := by decide +kernel
theorem d2_113 : decode prog_25_method_3_code 113 = .ok (.iload_n 2, 1) := by decide +kernel
theorem d2_114 : decode prog_25_method_3_code 114 = .ok (.iconst 4, 1) := by decide +kernel
theorem d2_115 : decode prog_25_method_3_code 115 = .ok (.iadd, 1) := by decide +kernel
theorem d2_116 : decode prog_25_method_3_code 116 = .ok (.getstatic 32, 3) := by decide +kernel
theorem d2_119 : decode prog_25_method_3_code 119 = .ok (.iload_n 0, 1) := by decide +kernel
theorem d2_120 : decode prog_25_method_3_code 120 = .ok (.iconst 4, 1) := by decide +kernel
theorem d2_121 : decode prog_25_method_3_code 121 = .ok (.ishr, 1) := by decide +kernel
theorem d2_122 : decode prog_25_method_3_code 122 = .ok (.bipush 15, 2) := by decide +kernel
theorem d2_124 : decode prog_25_method_3_code 124 = .ok (.iand, 1) := by decide +kernel
theorem d2_125 : decode prog_25_method_3_code 125 = .ok (.baload, 1) := by decide +kernel
theorem d2_126 : decode prog_25_method_3_code 126 = .ok (.bastore, 1) := by decide +kernel
theorem d2_127 : decode prog_25_method_3_code 127 = .ok (.aload_n 1, 1) := by decide +kernel
theorem d2_128 : decode prog_25_method_3_code 128 = .ok (.iload_n 2, 1) := by decide +kernel
theorem d2_129 : decode prog_25_method_3_code 129 = .ok (.iconst 5, 1) := by decide +kernel
theorem d2_130 : decode prog_25_method_3_code 130 = .ok (.iadd, 1) := by decide +kernel
theorem d2_131 : decode prog_25_method_3_code 131 = .ok (.getstatic 32, 3) := by decide +kernel
theorem d2_134 : decode prog_25_method_3_code 134 = .ok (.iload_n 0, 1) := by decide +kernel
theorem d2_135 : decode prog_25_method_3_code 135 = .ok (.bipush 15, 2) := by decide +kernel
theorem d2_137 : decode prog_25_method_3_code 137 = .ok (.iand, 1) := by decide +kernel
theorem d2_138 : decode prog_25_method_3_code 138 = .ok (.baload, 1) := by decide +kernel
theorem d2_139 : decode prog_25_method_3_code 139 = .ok (.bastore, 1) := by decide +kernel
theorem d2_140 : decode prog_25_method_3_code 140 = .ok (.iload_n 2, 1) := by decide +kernel
theorem d2_141 : decode prog_25_method_3_code 141 = .ok (.bipush 6, 2) := by decide +kernel
theorem d2_143 : decode prog_25_method_3_code 143 = .ok (.iadd, 1) := by decide +kernel
theorem d2_144 : decode prog_25_method_3_code 144 = .ok (.ireturn, 1) := by decide +kernel
theorem ef_2 (m : MethodId) (p0 : Int32) (r1 : Addr) (p2 : Int32) : entryFrame m #[(.int p0), (.ref r1), (.int p2)] 3 = mkF m 0 #[.val (.int p0), .val (.ref r1), .val (.int p2)] [] := by first | (simp [entryFrame, mkF, argsToLocals, Value.category]; done) | rfl
def B2_16 (p2 : Int32) (B1 : Nat → Int32) : Nat → Int32 := own_up B1 (p2).toNatClampNeg ((92 : Int32).toInt8.toInt32)
def B2_23 (p0 : Int32) (p2 : Int32) (B1 : Nat → Int32) : Nat → Int32 := own_up (B2_16 p2 B1) ((p2 + (1 : Int32))).toNatClampNeg ((p0.toInt8.toInt32).toInt8.toInt32)
def B2_59 (p2 : Int32) (B1 : Nat → Int32) : Nat → Int32 := own_up B1 (p2).toNatClampNeg ((92 : Int32).toInt8.toInt32)
def B2_66 (p2 : Int32) (B1 : Nat → Int32) : Nat → Int32 := own_up (B2_59 p2 B1) ((p2 + (1 : Int32))).toNatClampNeg ((116 : Int32).toInt8.toInt32)
def B2_75 (p2 : Int32) (B1 : Nat → Int32) : Nat → Int32 := own_up B1 (p2).toNatClampNeg ((92 : Int32).toInt8.toInt32)
def B2_82 (p2 : Int32) (B1 : Nat → Int32) : Nat → Int32 := own_up (B2_75 p2 B1) ((p2 + (1 : Int32))).toNatClampNeg ((117 : Int32).toInt8.toInt32)
def B2_95 (p0 : Int32) (p2 : Int32) (B1 : Nat → Int32) (HX : Nat → Int32) : Nat → Int32 := own_up (B2_82 p2 B1) ((p2 + (2 : Int32))).toNatClampNeg ((HX ((p0 >>> ((12 : Int32) &&& 31))).toNatClampNeg).toInt8.toInt32)
def B2_111 (p0 : Int32) (p2 : Int32) (B1 : Nat → Int32) (HX : Nat → Int32) : Nat → Int32 := own_up (B2_95 p0 p2 B1 HX) ((p2 + (3 : Int32))).toNatClampNeg ((HX (((p0 >>> ((8 : Int32) &&& 31)) &&& (15 : Int32))).toNatClampNeg).toInt8.toInt32)
def B2_126 (p0 : Int32) (p2 : Int32) (B1 : Nat → Int32) (HX : Nat → Int32) : Nat → Int32 := own_up (B2_111 p0 p2 B1 HX) ((p2 + (4 : Int32))).toNatClampNeg ((HX (((p0 >>> ((4 : Int32) &&& 31)) &&& (15 : Int32))).toNatClampNeg).toInt8.toInt32)
def B2_139 (p0 : Int32) (p2 : Int32) (B1 : Nat → Int32) (HX : Nat → Int32) : Nat → Int32 := own_up (B2_126 p0 p2 B1 HX) ((p2 + (5 : Int32))).toNatClampNeg ((HX ((p0 &&& (15 : Int32))).toNatClampNeg).toInt8.toInt32)
def B2_44 (p0 : Int32) (p2 : Int32) (B1 : Nat → Int32) : Nat → Int32 := own_up B1 (p2).toNatClampNeg ((p0.toInt8.toInt32).toInt8.toInt32)
def f2 (p0 : Int32) (p2 : Int32) (B1 : Nat → Int32) (HX : Nat → Int32) : Int32 := (if p0 = (34 : Int32) then (p2 + (2 : Int32)) else (if p0 = (92 : Int32) then (p2 + (2 : Int32)) else (if p0 < (32 : Int32) then (if p0 = (9 : Int32) then (p2 + (2 : Int32)) else (p2 + (6 : Int32))) else (if (126 : Int32) < p0 then (if p0 = (9 : Int32) then (p2 + (2 : Int32)) else (p2 + (6 : Int32))) else (p2 + (1 : Int32))))))
def G2 (p0 p2 : Int32) (B1 HX : Nat → Int32) : Nat → Int32 := (if p0 = (34 : Int32) then (B2_23 p0 p2 B1) else (if p0 = (92 : Int32) then (B2_23 p0 p2 B1) else (if p0 < (32 : Int32) then (if p0 = (9 : Int32) then (B2_66 p2 B1) else (B2_139 p0 p2 B1 HX)) else (if (126 : Int32) < p0 then (if p0 = (9 : Int32) then (B2_66 p2 B1) else (B2_139 p0 p2 B1 HX)) else (B2_44 p0 p2 B1)))))
def Q2 (Z : State) (p0 : Int32) (r1 : Addr) (p2 : Int32) (B1 : Nat → Int32) (HX : Nat → Int32) (wH : Addr) (h0 : Heap) (n0 : Nat) (v : Option Value) (h : Heap) (L : List Loc) : Prop := v = some (.int (f2 p0 p2 B1 HX)) ∧ Fr n0 L ∧ Keep h0 h [r1] ∧ own_By Z h r1 14 (G2 p0 p2 B1 HX)
set_option maxRecDepth 65536 in
set_option maxHeartbeats 40000000 in
theorem rm2 (l : Launch) (Z : State) (a0 : Array Value) (hw : ∀ d ∈ tables_1, d.before a0 Z = true) (ws : List Jvm.Cond) (p0 : Int32) (r1 : Addr) (p2 : Int32) (B1 : Nat → Int32) (HX : Nat → Int32) (wH : Addr) (h0 : Heap) (n0 : Nat) (Z0 : n0 ≤ h0.size) (g_r1 : n0 ≤ r1) (V_r1 : own_By Z h0 r1 14 B1) (S_H : Sta Z h0 "com/example/segmentry/segmentry/io/JsonText" "HEX_DIGITS" "[B" (.ref wH)) (V_H : own_By Z h0 wH 16 HX) (neH : wH ≠ r1) (hc : 0 ≤ p0.toInt ∧ p0.toInt < 65536) (hp : ∃ n, n < 8 ∧ p2 = Int32.ofNat n) :
    MetFree l (⟨"com/example/segmentry/segmentry/io/JsonText", "escape", "(C[BI)I"⟩ : MethodName) (head1 (Jvm.Cond.code (⟨"com/example/segmentry/segmentry/io/JsonText", "escape", "(C[BI)I"⟩ : MethodName) prog_25_method_3_code 3 (some .int) :: ws) ({ frames := 0, cells := 0, slots := 0, locals := 0 } : Room)) (fun a U => a = #[(.int p0), (.ref r1), (.int p2)] ∧ Z.Warmed39 U.vm ∧ U.heap = h0) (fun _ _ _ _ _ => True) (fun _ U o U' => ∃ v L, o = .returned v ∧ Q2 Z p0 r1 p2 B1 HX wH h0 n0 v U'.heap L ∧ FrameEnd U o U' L ({ frames := 0, cells := 0, slots := 0, locals := 0 } : Room).cells ({ frames := 0, cells := 0, slots := 0, locals := 0 } : Room).slots) := by
  refine MetFree.of_bodySF (plainFor_of_name pn_1) hisR ?_
  intro p e s m args below meth c s₁ Bd hml0 hP hK
  obtain ⟨rfl, hZ, hh⟩ := hP
  have hx := Bd.exec
  have hby := Bd.bytes
  have hml : c.maxLocals = 3 := hml0
  have hown : s.vm.findClass "com/example/segmentry/segmentry/io/JsonText" = some m.cls := findClass_of_methodNamed Bd.named
  have hnm := (name_of_methodNamed Bd.named Bd.method).1
  have X0 : Stand p l e ({ frames := 0, cells := 0, slots := 0, locals := 0 } : Room) s m #[(.int p0), (.ref r1), (.int p2)] below meth c s₁ [] 0 0 := Stand.of_body Bd
  have e0 : s₁.heap = h0 := by rw [← hh, Bd.state]; rfl
  have N0 := Fr.nil n0
  have K0 : Keep h0 h0 [r1] := Keep.refl h0 _
  have pre0 : own_Go p e below (s₁.setTop (entryFrame m #[(.int p0), (.ref r1), (.int p2)] 3)) (s₁.setTop (mkF m 0 #[.val (.int p0), .val (.ref r1), .val (.int p2)] [])) := fun t k => castTop (ef_2 m p0 r1 p2) k
  have k1 : own_Go p e below (s₁.setTop (entryFrame m #[(.int p0), (.ref r1), (.int p2)] 3)) (s₁.setTop (mkF m 3 #[.val (.int p0), .val (.ref r1), .val (.int p2)] [(.int (34 : Int32)), (.int p0)])) := by
    intro t k
    refine pre0 t ?_
    show Steps p.tables e below (s₁.setTop (mkF m 0 #[.val (.int p0), .val (.ref r1), .val (.int p2)] [])) t
    refine XS.iloadN X0.here hx rfl (hb hby d2_0) rfl ?_
    show Steps p.tables e below (s₁.setTop (mkF m 1 #[.val (.int p0), .val (.ref r1), .val (.int p2)] [(.int p0)])) t
    refine XS.bipush X0.here hx rfl (hb hby d2_1) ?_
    exact k
  by_cases hc3_2 : p0 = (34 : Int32)
  · have k3 : own_Go p e below (s₁.setTop (entryFrame m #[(.int p0), (.ref r1), (.int p2)] 3)) (s₁.setTop (mkF m 16 #[.val (.int p0), .val (.ref r1), .val (.int p2)] [(.int (92 : Int32)), (.int p2), (.ref r1)])) := by
      intro t k
      refine k1 t ?_
      show Steps p.tables e below (s₁.setTop (mkF m 3 #[.val (.int p0), .val (.ref r1), .val (.int p2)] [(.int (34 : Int32)), (.int p0)])) t
      refine XS.icmpYes X0.here hx rfl (pc0 := 3) (pc' := 12) rfl (hb hby d2_3) rfl (teq hc3_2).1 (by decide) (by decide) ?_
      show Steps p.tables e below (s₁.setTop (mkF m 12 #[.val (.int p0), .val (.ref r1), .val (.int p2)] [])) t
      refine XS.aloadN X0.here hx rfl (hb hby d2_12) rfl rfl ?_
      show Steps p.tables e below (s₁.setTop (mkF m 13 #[.val (.int p0), .val (.ref r1), .val (.int p2)] [(.ref r1)])) t
      refine XS.iloadN X0.here hx rfl (hb hby d2_13) rfl ?_
      show Steps p.tables e below (s₁.setTop (mkF m 14 #[.val (.int p0), .val (.ref r1), .val (.int p2)] [(.int p2), (.ref r1)])) t
      refine XS.bipush X0.here hx rfl (hb hby d2_14) ?_
      exact k
    obtain ⟨T4, h4, X4, e4, W4, V4, st4⟩ := own_bst X0 hx hZ e0 V_r1 (j := p2) (own_i0 hp).1 (own_i0 hp).2 (g := (mkF m 16 #[.val (.int p0), .val (.ref r1), .val (.int p2)] [(.int (92 : Int32)), (.int p2), (.ref r1)])) rfl rfl (hb hby d2_16)
    have V4' : own_By Z h4 r1 14 (B2_16 p2 B1) := V4
    have Kp4 : Keep h0 h4 [r1] := K0.wr W4 (Or.inl (List.mem_of_getElem? (i := 0) rfl))
    have N4 := Fr.snoc X4 N0 g_r1
    have k5 : own_Go p e below (s₁.setTop (entryFrame m #[(.int p0), (.ref r1), (.int p2)] 3)) (T4.setTop (mkF m 17 #[.val (.int p0), .val (.ref r1), .val (.int p2)] [])) := fun t k => k3 t (st4 t k)
    have k6 : own_Go p e below (s₁.setTop (entryFrame m #[(.int p0), (.ref r1), (.int p2)] 3)) (T4.setTop (mkF m 23 #[.val (.int p0), .val (.ref r1), .val (.int p2)] [(.int (p0.toInt8.toInt32)), (.int (p2 + (1 : Int32))), (.ref r1)])) := by
      intro t k
      refine k5 t ?_
      show Steps p.tables e below (T4.setTop (mkF m 17 #[.val (.int p0), .val (.ref r1), .val (.int p2)] [])) t
      refine XS.aloadN X4.here hx rfl (hb hby d2_17) rfl rfl ?_
      show Steps p.tables e below (T4.setTop (mkF m 18 #[.val (.int p0), .val (.ref r1), .val (.int p2)] [(.ref r1)])) t
      refine XS.iloadN X4.here hx rfl (hb hby d2_18) rfl ?_
      show Steps p.tables e below (T4.setTop (mkF m 19 #[.val (.int p0), .val (.ref r1), .val (.int p2)] [(.int p2), (.ref r1)])) t
      refine XS.iconst X4.here hx rfl (hb hby d2_19) ?_
      show Steps p.tables e below (T4.setTop (mkF m 20 #[.val (.int p0), .val (.ref r1), .val (.int p2)] [(.int (1 : Int32)), (.int p2), (.ref r1)])) t
      refine XS.iadd X4.here hx rfl (hb hby d2_20) rfl ?_
      show Steps p.tables e below (T4.setTop (mkF m 21 #[.val (.int p0), .val (.ref r1), .val (.int p2)] [(.int (p2 + (1 : Int32))), (.ref r1)])) t
      refine XS.iloadN X4.here hx rfl (hb hby d2_21) rfl ?_
      show Steps p.tables e below (T4.setTop (mkF m 22 #[.val (.int p0), .val (.ref r1), .val (.int p2)] [(.int p0), (.int (p2 + (1 : Int32))), (.ref r1)])) t
      refine XS.i2b X4.here hx rfl (hb hby d2_22) rfl ?_
      exact k
    obtain ⟨T7, h7, X7, e7, W7, V7, st7⟩ := own_bst X4 hx hZ e4 V4' (j := (p2 + (1 : Int32))) (own_i1 hp).1 (own_i1 hp).2 (g := (mkF m 23 #[.val (.int p0), .val (.ref r1), .val (.int p2)] [(.int (p0.toInt8.toInt32)), (.int (p2 + (1 : Int32))), (.ref r1)])) rfl rfl (hb hby d2_23)
    have V7' : own_By Z h7 r1 14 (B2_23 p0 p2 B1) := V7
    have Kp7 : Keep h0 h7 [r1] := Kp4.wr W7 (Or.inl (List.mem_of_getElem? (i := 0) rfl))
    have N7 := Fr.snoc X7 N4 g_r1
    have k8 : own_Go p e below (s₁.setTop (entryFrame m #[(.int p0), (.ref r1), (.int p2)] 3)) (T7.setTop (mkF m 24 #[.val (.int p0), .val (.ref r1), .val (.int p2)] [])) := fun t k => k6 t (st7 t k)
    have k9 : own_Go p e below (s₁.setTop (entryFrame m #[(.int p0), (.ref r1), (.int p2)] 3)) (T7.setTop (mkF m 27 #[.val (.int p0), .val (.ref r1), .val (.int p2)] [(.int (p2 + (2 : Int32)))])) := by
      intro t k
      refine k8 t ?_
      show Steps p.tables e below (T7.setTop (mkF m 24 #[.val (.int p0), .val (.ref r1), .val (.int p2)] [])) t
      refine XS.iloadN X7.here hx rfl (hb hby d2_24) rfl ?_
      show Steps p.tables e below (T7.setTop (mkF m 25 #[.val (.int p0), .val (.ref r1), .val (.int p2)] [(.int p2)])) t
      refine XS.iconst X7.here hx rfl (hb hby d2_25) ?_
      show Steps p.tables e below (T7.setTop (mkF m 26 #[.val (.int p0), .val (.ref r1), .val (.int p2)] [(.int (2 : Int32)), (.int p2)])) t
      refine XS.iadd X7.here hx rfl (hb hby d2_26) rfl ?_
      exact k
    obtain ⟨fs, hr, hrun, hended, hW, hsame⟩ := X7.leave (v := some (.int (p2 + (2 : Int32)))) (fun h => by rw [Bd.returns] at h; cases h)
    refine ⟨_, _, k9 _ ?_, hrun, hended, _, _, rfl, ?_, ⟨_, rfl⟩, hW, hsame.mono (by decide) (by decide)⟩
    · exact retI X7 hx Bd.returns (hb hby d2_27) hr
    · show Q2 Z p0 r1 p2 B1 HX wH h0 n0 _ T7.heap _
      rw [e7]
      exact ⟨congrArg (fun z => some (Value.int z)) (show f2 p0 p2 B1 HX = (p2 + (2 : Int32)) from (by unfold f2; rw [if_pos hc3_2])).symm, N7, Kp7, (by rw [show G2 p0 p2 B1 HX = (B2_23 p0 p2 B1) from (by unfold G2; rw [if_pos hc3_2])]; exact V7')⟩
  · have k10 : own_Go p e below (s₁.setTop (entryFrame m #[(.int p0), (.ref r1), (.int p2)] 3)) (s₁.setTop (mkF m 9 #[.val (.int p0), .val (.ref r1), .val (.int p2)] [(.int (92 : Int32)), (.int p0)])) := by
      intro t k
      refine k1 t ?_
      show Steps p.tables e below (s₁.setTop (mkF m 3 #[.val (.int p0), .val (.ref r1), .val (.int p2)] [(.int (34 : Int32)), (.int p0)])) t
      refine XS.icmpNo X0.here hx rfl (hb hby d2_3) rfl (feq hc3_2).1 ?_
      show Steps p.tables e below (s₁.setTop (mkF m 6 #[.val (.int p0), .val (.ref r1), .val (.int p2)] [])) t
      refine XS.iloadN X0.here hx rfl (hb hby d2_6) rfl ?_
      show Steps p.tables e below (s₁.setTop (mkF m 7 #[.val (.int p0), .val (.ref r1), .val (.int p2)] [(.int p0)])) t
      refine XS.bipush X0.here hx rfl (hb hby d2_7) ?_
      exact k
    by_cases hc9_11 : p0 = (92 : Int32)
    · have k12 : own_Go p e below (s₁.setTop (entryFrame m #[(.int p0), (.ref r1), (.int p2)] 3)) (s₁.setTop (mkF m 16 #[.val (.int p0), .val (.ref r1), .val (.int p2)] [(.int (92 : Int32)), (.int p2), (.ref r1)])) := by
        intro t k
        refine k10 t ?_
        show Steps p.tables e below (s₁.setTop (mkF m 9 #[.val (.int p0), .val (.ref r1), .val (.int p2)] [(.int (92 : Int32)), (.int p0)])) t
        refine XS.icmpNo X0.here hx rfl (hb hby d2_9) rfl (teq hc9_11).2 ?_
        show Steps p.tables e below (s₁.setTop (mkF m 12 #[.val (.int p0), .val (.ref r1), .val (.int p2)] [])) t
        refine XS.aloadN X0.here hx rfl (hb hby d2_12) rfl rfl ?_
        show Steps p.tables e below (s₁.setTop (mkF m 13 #[.val (.int p0), .val (.ref r1), .val (.int p2)] [(.ref r1)])) t
        refine XS.iloadN X0.here hx rfl (hb hby d2_13) rfl ?_
        show Steps p.tables e below (s₁.setTop (mkF m 14 #[.val (.int p0), .val (.ref r1), .val (.int p2)] [(.int p2), (.ref r1)])) t
        refine XS.bipush X0.here hx rfl (hb hby d2_14) ?_
        exact k
      obtain ⟨T13, h13, X13, e13, W13, V13, st13⟩ := own_bst X0 hx hZ e0 V_r1 (j := p2) (own_i0 hp).1 (own_i0 hp).2 (g := (mkF m 16 #[.val (.int p0), .val (.ref r1), .val (.int p2)] [(.int (92 : Int32)), (.int p2), (.ref r1)])) rfl rfl (hb hby d2_16)
      have V13' : own_By Z h13 r1 14 (B2_16 p2 B1) := V13
      have Kp13 : Keep h0 h13 [r1] := K0.wr W13 (Or.inl (List.mem_of_getElem? (i := 0) rfl))
      have N13 := Fr.snoc X13 N0 g_r1
      have k14 : own_Go p e below (s₁.setTop (entryFrame m #[(.int p0), (.ref r1), (.int p2)] 3)) (T13.setTop (mkF m 17 #[.val (.int p0), .val (.ref r1), .val (.int p2)] [])) := fun t k => k12 t (st13 t k)
      have k15 : own_Go p e below (s₁.setTop (entryFrame m #[(.int p0), (.ref r1), (.int p2)] 3)) (T13.setTop (mkF m 23 #[.val (.int p0), .val (.ref r1), .val (.int p2)] [(.int (p0.toInt8.toInt32)), (.int (p2 + (1 : Int32))), (.ref r1)])) := by
        intro t k
        refine k14 t ?_
        show Steps p.tables e below (T13.setTop (mkF m 17 #[.val (.int p0), .val (.ref r1), .val (.int p2)] [])) t
        refine XS.aloadN X13.here hx rfl (hb hby d2_17) rfl rfl ?_
        show Steps p.tables e below (T13.setTop (mkF m 18 #[.val (.int p0), .val (.ref r1), .val (.int p2)] [(.ref r1)])) t
        refine XS.iloadN X13.here hx rfl (hb hby d2_18) rfl ?_
        show Steps p.tables e below (T13.setTop (mkF m 19 #[.val (.int p0), .val (.ref r1), .val (.int p2)] [(.int p2), (.ref r1)])) t
        refine XS.iconst X13.here hx rfl (hb hby d2_19) ?_
        show Steps p.tables e below (T13.setTop (mkF m 20 #[.val (.int p0), .val (.ref r1), .val (.int p2)] [(.int (1 : Int32)), (.int p2), (.ref r1)])) t
        refine XS.iadd X13.here hx rfl (hb hby d2_20) rfl ?_
        show Steps p.tables e below (T13.setTop (mkF m 21 #[.val (.int p0), .val (.ref r1), .val (.int p2)] [(.int (p2 + (1 : Int32))), (.ref r1)])) t
        refine XS.iloadN X13.here hx rfl (hb hby d2_21) rfl ?_
        show Steps p.tables e below (T13.setTop (mkF m 22 #[.val (.int p0), .val (.ref r1), .val (.int p2)] [(.int p0), (.int (p2 + (1 : Int32))), (.ref r1)])) t
        refine XS.i2b X13.here hx rfl (hb hby d2_22) rfl ?_
        exact k
      obtain ⟨T16, h16, X16, e16, W16, V16, st16⟩ := own_bst X13 hx hZ e13 V13' (j := (p2 + (1 : Int32))) (own_i1 hp).1 (own_i1 hp).2 (g := (mkF m 23 #[.val (.int p0), .val (.ref r1), .val (.int p2)] [(.int (p0.toInt8.toInt32)), (.int (p2 + (1 : Int32))), (.ref r1)])) rfl rfl (hb hby d2_23)
      have V16' : own_By Z h16 r1 14 (B2_23 p0 p2 B1) := V16
      have Kp16 : Keep h0 h16 [r1] := Kp13.wr W16 (Or.inl (List.mem_of_getElem? (i := 0) rfl))
      have N16 := Fr.snoc X16 N13 g_r1
      have k17 : own_Go p e below (s₁.setTop (entryFrame m #[(.int p0), (.ref r1), (.int p2)] 3)) (T16.setTop (mkF m 24 #[.val (.int p0), .val (.ref r1), .val (.int p2)] [])) := fun t k => k15 t (st16 t k)
      have k18 : own_Go p e below (s₁.setTop (entryFrame m #[(.int p0), (.ref r1), (.int p2)] 3)) (T16.setTop (mkF m 27 #[.val (.int p0), .val (.ref r1), .val (.int p2)] [(.int (p2 + (2 : Int32)))])) := by
        intro t k
        refine k17 t ?_
        show Steps p.tables e below (T16.setTop (mkF m 24 #[.val (.int p0), .val (.ref r1), .val (.int p2)] [])) t
        refine XS.iloadN X16.here hx rfl (hb hby d2_24) rfl ?_
        show Steps p.tables e below (T16.setTop (mkF m 25 #[.val (.int p0), .val (.ref r1), .val (.int p2)] [(.int p2)])) t
        refine XS.iconst X16.here hx rfl (hb hby d2_25) ?_
        show Steps p.tables e below (T16.setTop (mkF m 26 #[.val (.int p0), .val (.ref r1), .val (.int p2)] [(.int (2 : Int32)), (.int p2)])) t
        refine XS.iadd X16.here hx rfl (hb hby d2_26) rfl ?_
        exact k
      obtain ⟨fs, hr, hrun, hended, hW, hsame⟩ := X16.leave (v := some (.int (p2 + (2 : Int32)))) (fun h => by rw [Bd.returns] at h; cases h)
      refine ⟨_, _, k18 _ ?_, hrun, hended, _, _, rfl, ?_, ⟨_, rfl⟩, hW, hsame.mono (by decide) (by decide)⟩
      · exact retI X16 hx Bd.returns (hb hby d2_27) hr
      · show Q2 Z p0 r1 p2 B1 HX wH h0 n0 _ T16.heap _
        rw [e16]
        exact ⟨congrArg (fun z => some (Value.int z)) (show f2 p0 p2 B1 HX = (p2 + (2 : Int32)) from (by unfold f2; rw [if_neg hc3_2, if_pos hc9_11])).symm, N16, Kp16, (by rw [show G2 p0 p2 B1 HX = (B2_23 p0 p2 B1) from (by unfold G2; rw [if_neg hc3_2, if_pos hc9_11])]; exact V16')⟩
    · have k19 : own_Go p e below (s₁.setTop (entryFrame m #[(.int p0), (.ref r1), (.int p2)] 3)) (s₁.setTop (mkF m 31 #[.val (.int p0), .val (.ref r1), .val (.int p2)] [(.int (32 : Int32)), (.int p0)])) := by
        intro t k
        refine k10 t ?_
        show Steps p.tables e below (s₁.setTop (mkF m 9 #[.val (.int p0), .val (.ref r1), .val (.int p2)] [(.int (92 : Int32)), (.int p0)])) t
        refine XS.icmpYes X0.here hx rfl (pc0 := 9) (pc' := 28) rfl (hb hby d2_9) rfl (feq hc9_11).2 (by decide) (by decide) ?_
        show Steps p.tables e below (s₁.setTop (mkF m 28 #[.val (.int p0), .val (.ref r1), .val (.int p2)] [])) t
        refine XS.iloadN X0.here hx rfl (hb hby d2_28) rfl ?_
        show Steps p.tables e below (s₁.setTop (mkF m 29 #[.val (.int p0), .val (.ref r1), .val (.int p2)] [(.int p0)])) t
        refine XS.bipush X0.here hx rfl (hb hby d2_29) ?_
        exact k
      by_cases hc31_20 : p0 < (32 : Int32)
      · have k21 : own_Go p e below (s₁.setTop (entryFrame m #[(.int p0), (.ref r1), (.int p2)] 3)) (s₁.setTop (mkF m 52 #[.val (.int p0), .val (.ref r1), .val (.int p2)] [(.int (9 : Int32)), (.int p0)])) := by
          intro t k
          refine k19 t ?_
          show Steps p.tables e below (s₁.setTop (mkF m 31 #[.val (.int p0), .val (.ref r1), .val (.int p2)] [(.int (32 : Int32)), (.int p0)])) t
          refine XS.icmpYes X0.here hx rfl (pc0 := 31) (pc' := 49) rfl (hb hby d2_31) rfl (tlt hc31_20).1 (by decide) (by decide) ?_
          show Steps p.tables e below (s₁.setTop (mkF m 49 #[.val (.int p0), .val (.ref r1), .val (.int p2)] [])) t
          refine XS.iloadN X0.here hx rfl (hb hby d2_49) rfl ?_
          show Steps p.tables e below (s₁.setTop (mkF m 50 #[.val (.int p0), .val (.ref r1), .val (.int p2)] [(.int p0)])) t
          refine XS.bipush X0.here hx rfl (hb hby d2_50) ?_
          exact k
        by_cases hc52_22 : p0 = (9 : Int32)
        · have k23 : own_Go p e below (s₁.setTop (entryFrame m #[(.int p0), (.ref r1), (.int p2)] 3)) (s₁.setTop (mkF m 59 #[.val (.int p0), .val (.ref r1), .val (.int p2)] [(.int (92 : Int32)), (.int p2), (.ref r1)])) := by
            intro t k
            refine k21 t ?_
            show Steps p.tables e below (s₁.setTop (mkF m 52 #[.val (.int p0), .val (.ref r1), .val (.int p2)] [(.int (9 : Int32)), (.int p0)])) t
            refine XS.icmpNo X0.here hx rfl (hb hby d2_52) rfl (teq hc52_22).2 ?_
            show Steps p.tables e below (s₁.setTop (mkF m 55 #[.val (.int p0), .val (.ref r1), .val (.int p2)] [])) t
            refine XS.aloadN X0.here hx rfl (hb hby d2_55) rfl rfl ?_
            show Steps p.tables e below (s₁.setTop (mkF m 56 #[.val (.int p0), .val (.ref r1), .val (.int p2)] [(.ref r1)])) t
            refine XS.iloadN X0.here hx rfl (hb hby d2_56) rfl ?_
            show Steps p.tables e below (s₁.setTop (mkF m 57 #[.val (.int p0), .val (.ref r1), .val (.int p2)] [(.int p2), (.ref r1)])) t
            refine XS.bipush X0.here hx rfl (hb hby d2_57) ?_
            exact k
          obtain ⟨T24, h24, X24, e24, W24, V24, st24⟩ := own_bst X0 hx hZ e0 V_r1 (j := p2) (own_i0 hp).1 (own_i0 hp).2 (g := (mkF m 59 #[.val (.int p0), .val (.ref r1), .val (.int p2)] [(.int (92 : Int32)), (.int p2), (.ref r1)])) rfl rfl (hb hby d2_59)
          have V24' : own_By Z h24 r1 14 (B2_59 p2 B1) := V24
          have Kp24 : Keep h0 h24 [r1] := K0.wr W24 (Or.inl (List.mem_of_getElem? (i := 0) rfl))
          have N24 := Fr.snoc X24 N0 g_r1
          have k25 : own_Go p e below (s₁.setTop (entryFrame m #[(.int p0), (.ref r1), (.int p2)] 3)) (T24.setTop (mkF m 60 #[.val (.int p0), .val (.ref r1), .val (.int p2)] [])) := fun t k => k23 t (st24 t k)
          have k26 : own_Go p e below (s₁.setTop (entryFrame m #[(.int p0), (.ref r1), (.int p2)] 3)) (T24.setTop (mkF m 66 #[.val (.int p0), .val (.ref r1), .val (.int p2)] [(.int (116 : Int32)), (.int (p2 + (1 : Int32))), (.ref r1)])) := by
            intro t k
            refine k25 t ?_
            show Steps p.tables e below (T24.setTop (mkF m 60 #[.val (.int p0), .val (.ref r1), .val (.int p2)] [])) t
            refine XS.aloadN X24.here hx rfl (hb hby d2_60) rfl rfl ?_
            show Steps p.tables e below (T24.setTop (mkF m 61 #[.val (.int p0), .val (.ref r1), .val (.int p2)] [(.ref r1)])) t
            refine XS.iloadN X24.here hx rfl (hb hby d2_61) rfl ?_
            show Steps p.tables e below (T24.setTop (mkF m 62 #[.val (.int p0), .val (.ref r1), .val (.int p2)] [(.int p2), (.ref r1)])) t
            refine XS.iconst X24.here hx rfl (hb hby d2_62) ?_
            show Steps p.tables e below (T24.setTop (mkF m 63 #[.val (.int p0), .val (.ref r1), .val (.int p2)] [(.int (1 : Int32)), (.int p2), (.ref r1)])) t
            refine XS.iadd X24.here hx rfl (hb hby d2_63) rfl ?_
            show Steps p.tables e below (T24.setTop (mkF m 64 #[.val (.int p0), .val (.ref r1), .val (.int p2)] [(.int (p2 + (1 : Int32))), (.ref r1)])) t
            refine XS.bipush X24.here hx rfl (hb hby d2_64) ?_
            exact k
          obtain ⟨T27, h27, X27, e27, W27, V27, st27⟩ := own_bst X24 hx hZ e24 V24' (j := (p2 + (1 : Int32))) (own_i1 hp).1 (own_i1 hp).2 (g := (mkF m 66 #[.val (.int p0), .val (.ref r1), .val (.int p2)] [(.int (116 : Int32)), (.int (p2 + (1 : Int32))), (.ref r1)])) rfl rfl (hb hby d2_66)
          have V27' : own_By Z h27 r1 14 (B2_66 p2 B1) := V27
          have Kp27 : Keep h0 h27 [r1] := Kp24.wr W27 (Or.inl (List.mem_of_getElem? (i := 0) rfl))
          have N27 := Fr.snoc X27 N24 g_r1
          have k28 : own_Go p e below (s₁.setTop (entryFrame m #[(.int p0), (.ref r1), (.int p2)] 3)) (T27.setTop (mkF m 67 #[.val (.int p0), .val (.ref r1), .val (.int p2)] [])) := fun t k => k26 t (st27 t k)
          have k29 : own_Go p e below (s₁.setTop (entryFrame m #[(.int p0), (.ref r1), (.int p2)] 3)) (T27.setTop (mkF m 70 #[.val (.int p0), .val (.ref r1), .val (.int p2)] [(.int (p2 + (2 : Int32)))])) := by
            intro t k
            refine k28 t ?_
            show Steps p.tables e below (T27.setTop (mkF m 67 #[.val (.int p0), .val (.ref r1), .val (.int p2)] [])) t
            refine XS.iloadN X27.here hx rfl (hb hby d2_67) rfl ?_
            show Steps p.tables e below (T27.setTop (mkF m 68 #[.val (.int p0), .val (.ref r1), .val (.int p2)] [(.int p2)])) t
            refine XS.iconst X27.here hx rfl (hb hby d2_68) ?_
            show Steps p.tables e below (T27.setTop (mkF m 69 #[.val (.int p0), .val (.ref r1), .val (.int p2)] [(.int (2 : Int32)), (.int p2)])) t
            refine XS.iadd X27.here hx rfl (hb hby d2_69) rfl ?_
            exact k
          obtain ⟨fs, hr, hrun, hended, hW, hsame⟩ := X27.leave (v := some (.int (p2 + (2 : Int32)))) (fun h => by rw [Bd.returns] at h; cases h)
          refine ⟨_, _, k29 _ ?_, hrun, hended, _, _, rfl, ?_, ⟨_, rfl⟩, hW, hsame.mono (by decide) (by decide)⟩
          · exact retI X27 hx Bd.returns (hb hby d2_70) hr
          · show Q2 Z p0 r1 p2 B1 HX wH h0 n0 _ T27.heap _
            rw [e27]
            exact ⟨congrArg (fun z => some (Value.int z)) (show f2 p0 p2 B1 HX = (p2 + (2 : Int32)) from (by unfold f2; rw [if_neg hc3_2, if_neg hc9_11, if_pos hc31_20, if_pos hc52_22])).symm, N27, Kp27, (by rw [show G2 p0 p2 B1 HX = (B2_66 p2 B1) from (by unfold G2; rw [if_neg hc3_2, if_neg hc9_11, if_pos hc31_20, if_pos hc52_22])]; exact V27')⟩
        · have k30 : own_Go p e below (s₁.setTop (entryFrame m #[(.int p0), (.ref r1), (.int p2)] 3)) (s₁.setTop (mkF m 75 #[.val (.int p0), .val (.ref r1), .val (.int p2)] [(.int (92 : Int32)), (.int p2), (.ref r1)])) := by
            intro t k
            refine k21 t ?_
            show Steps p.tables e below (s₁.setTop (mkF m 52 #[.val (.int p0), .val (.ref r1), .val (.int p2)] [(.int (9 : Int32)), (.int p0)])) t
            refine XS.icmpYes X0.here hx rfl (pc0 := 52) (pc' := 71) rfl (hb hby d2_52) rfl (feq hc52_22).2 (by decide) (by decide) ?_
            show Steps p.tables e below (s₁.setTop (mkF m 71 #[.val (.int p0), .val (.ref r1), .val (.int p2)] [])) t
            refine XS.aloadN X0.here hx rfl (hb hby d2_71) rfl rfl ?_
            show Steps p.tables e below (s₁.setTop (mkF m 72 #[.val (.int p0), .val (.ref r1), .val (.int p2)] [(.ref r1)])) t
            refine XS.iloadN X0.here hx rfl (hb hby d2_72) rfl ?_
            show Steps p.tables e below (s₁.setTop (mkF m 73 #[.val (.int p0), .val (.ref r1), .val (.int p2)] [(.int p2), (.ref r1)])) t
            refine XS.bipush X0.here hx rfl (hb hby d2_73) ?_
            exact k
          obtain ⟨T31, h31, X31, e31, W31, V31, st31⟩ := own_bst X0 hx hZ e0 V_r1 (j := p2) (own_i0 hp).1 (own_i0 hp).2 (g := (mkF m 75 #[.val (.int p0), .val (.ref r1), .val (.int p2)] [(.int (92 : Int32)), (.int p2), (.ref r1)])) rfl rfl (hb hby d2_75)
          have V31' : own_By Z h31 r1 14 (B2_75 p2 B1) := V31
          have Kp31 : Keep h0 h31 [r1] := K0.wr W31 (Or.inl (List.mem_of_getElem? (i := 0) rfl))
          have N31 := Fr.snoc X31 N0 g_r1
          have k32 : own_Go p e below (s₁.setTop (entryFrame m #[(.int p0), (.ref r1), (.int p2)] 3)) (T31.setTop (mkF m 76 #[.val (.int p0), .val (.ref r1), .val (.int p2)] [])) := fun t k => k30 t (st31 t k)
          have k33 : own_Go p e below (s₁.setTop (entryFrame m #[(.int p0), (.ref r1), (.int p2)] 3)) (T31.setTop (mkF m 82 #[.val (.int p0), .val (.ref r1), .val (.int p2)] [(.int (117 : Int32)), (.int (p2 + (1 : Int32))), (.ref r1)])) := by
            intro t k
            refine k32 t ?_
            show Steps p.tables e below (T31.setTop (mkF m 76 #[.val (.int p0), .val (.ref r1), .val (.int p2)] [])) t
            refine XS.aloadN X31.here hx rfl (hb hby d2_76) rfl rfl ?_
            show Steps p.tables e below (T31.setTop (mkF m 77 #[.val (.int p0), .val (.ref r1), .val (.int p2)] [(.ref r1)])) t
            refine XS.iloadN X31.here hx rfl (hb hby d2_77) rfl ?_
            show Steps p.tables e below (T31.setTop (mkF m 78 #[.val (.int p0), .val (.ref r1), .val (.int p2)] [(.int p2), (.ref r1)])) t
            refine XS.iconst X31.here hx rfl (hb hby d2_78) ?_
            show Steps p.tables e below (T31.setTop (mkF m 79 #[.val (.int p0), .val (.ref r1), .val (.int p2)] [(.int (1 : Int32)), (.int p2), (.ref r1)])) t
            refine XS.iadd X31.here hx rfl (hb hby d2_79) rfl ?_
            show Steps p.tables e below (T31.setTop (mkF m 80 #[.val (.int p0), .val (.ref r1), .val (.int p2)] [(.int (p2 + (1 : Int32))), (.ref r1)])) t
            refine XS.bipush X31.here hx rfl (hb hby d2_80) ?_
            exact k
          obtain ⟨T34, h34, X34, e34, W34, V34, st34⟩ := own_bst X31 hx hZ e31 V31' (j := (p2 + (1 : Int32))) (own_i1 hp).1 (own_i1 hp).2 (g := (mkF m 82 #[.val (.int p0), .val (.ref r1), .val (.int p2)] [(.int (117 : Int32)), (.int (p2 + (1 : Int32))), (.ref r1)])) rfl rfl (hb hby d2_82)
          have V34' : own_By Z h34 r1 14 (B2_82 p2 B1) := V34
          have Kp34 : Keep h0 h34 [r1] := Kp31.wr W34 (Or.inl (List.mem_of_getElem? (i := 0) rfl))
          have N34 := Fr.snoc X34 N31 g_r1
          have k35 : own_Go p e below (s₁.setTop (entryFrame m #[(.int p0), (.ref r1), (.int p2)] 3)) (T34.setTop (mkF m 83 #[.val (.int p0), .val (.ref r1), .val (.int p2)] [])) := fun t k => k33 t (st34 t k)
          have k36 : own_Go p e below (s₁.setTop (entryFrame m #[(.int p0), (.ref r1), (.int p2)] 3)) (T34.setTop (mkF m 87 #[.val (.int p0), .val (.ref r1), .val (.int p2)] [(.int (p2 + (2 : Int32))), (.ref r1)])) := by
            intro t k
            refine k35 t ?_
            show Steps p.tables e below (T34.setTop (mkF m 83 #[.val (.int p0), .val (.ref r1), .val (.int p2)] [])) t
            refine XS.aloadN X34.here hx rfl (hb hby d2_83) rfl rfl ?_
            show Steps p.tables e below (T34.setTop (mkF m 84 #[.val (.int p0), .val (.ref r1), .val (.int p2)] [(.ref r1)])) t
            refine XS.iloadN X34.here hx rfl (hb hby d2_84) rfl ?_
            show Steps p.tables e below (T34.setTop (mkF m 85 #[.val (.int p0), .val (.ref r1), .val (.int p2)] [(.int p2), (.ref r1)])) t
            refine XS.iconst X34.here hx rfl (hb hby d2_85) ?_
            show Steps p.tables e below (T34.setTop (mkF m 86 #[.val (.int p0), .val (.ref r1), .val (.int p2)] [(.int (2 : Int32)), (.int p2), (.ref r1)])) t
            refine XS.iadd X34.here hx rfl (hb hby d2_86) rfl ?_
            exact k
          obtain ⟨T37, X37, e37, st37⟩ := getS2 X34 hx hZ hown (host := "") (Or.inl (hw _ (List.mem_of_getElem? (i := 10) rfl))) Via.refl e34 ((S_H.wr W31).wr W34) (g := (mkF m 87 #[.val (.int p0), .val (.ref r1), .val (.int p2)] [(.int (p2 + (2 : Int32))), (.ref r1)])) rfl (hb hby d2_87)
          have k38 : own_Go p e below (s₁.setTop (entryFrame m #[(.int p0), (.ref r1), (.int p2)] 3)) (T37.setTop (mkF m 90 #[.val (.int p0), .val (.ref r1), .val (.int p2)] [(.ref wH), (.int (p2 + (2 : Int32))), (.ref r1)])) := fun t k => k36 t (st37 t k)
          have k39 : own_Go p e below (s₁.setTop (entryFrame m #[(.int p0), (.ref r1), (.int p2)] 3)) (T37.setTop (mkF m 95 #[.val (.int p0), .val (.ref r1), .val (.int p2)] [(.int (HX ((p0 >>> ((12 : Int32) &&& 31))).toNatClampNeg)), (.int (p2 + (2 : Int32))), (.ref r1)])) := by
            intro t k
            refine k38 t ?_
            show Steps p.tables e below (T37.setTop (mkF m 90 #[.val (.int p0), .val (.ref r1), .val (.int p2)] [(.ref wH), (.int (p2 + (2 : Int32))), (.ref r1)])) t
            refine XS.iloadN X37.here hx rfl (hb hby d2_90) rfl ?_
            show Steps p.tables e below (T37.setTop (mkF m 91 #[.val (.int p0), .val (.ref r1), .val (.int p2)] [(.int p0), (.ref wH), (.int (p2 + (2 : Int32))), (.ref r1)])) t
            refine XS.bipush X37.here hx rfl (hb hby d2_91) ?_
            show Steps p.tables e below (T37.setTop (mkF m 93 #[.val (.int p0), .val (.ref r1), .val (.int p2)] [(.int (12 : Int32)), (.int p0), (.ref wH), (.int (p2 + (2 : Int32))), (.ref r1)])) t
            refine XS.ishr X37.here hx rfl (hb hby d2_93) rfl ?_
            show Steps p.tables e below (T37.setTop (mkF m 94 #[.val (.int p0), .val (.ref r1), .val (.int p2)] [(.int (p0 >>> ((12 : Int32) &&& 31))), (.ref wH), (.int (p2 + (2 : Int32))), (.ref r1)])) t
            refine own_bld X37 hx hZ e37 ((V_H.other W31 neH).other W34 neH) (j := (p0 >>> ((12 : Int32) &&& 31))) (own_h1 hc).1 (own_h1 hc).2 (g := (mkF m 94 #[.val (.int p0), .val (.ref r1), .val (.int p2)] [(.int (p0 >>> ((12 : Int32) &&& 31))), (.ref wH), (.int (p2 + (2 : Int32))), (.ref r1)])) rfl rfl (hb hby d2_94) _ ?_
            exact k
          obtain ⟨T40, h40, X40, e40, W40, V40, st40⟩ := own_bst X37 hx hZ e37 V34' (j := (p2 + (2 : Int32))) (own_i2 hp).1 (own_i2 hp).2 (g := (mkF m 95 #[.val (.int p0), .val (.ref r1), .val (.int p2)] [(.int (HX ((p0 >>> ((12 : Int32) &&& 31))).toNatClampNeg)), (.int (p2 + (2 : Int32))), (.ref r1)])) rfl rfl (hb hby d2_95)
          have V40' : own_By Z h40 r1 14 (B2_95 p0 p2 B1 HX) := V40
          have Kp40 : Keep h0 h40 [r1] := Kp34.wr W40 (Or.inl (List.mem_of_getElem? (i := 0) rfl))
          have N40 := Fr.snoc X40 N34 g_r1
          have k41 : own_Go p e below (s₁.setTop (entryFrame m #[(.int p0), (.ref r1), (.int p2)] 3)) (T40.setTop (mkF m 96 #[.val (.int p0), .val (.ref r1), .val (.int p2)] [])) := fun t k => k39 t (st40 t k)
          have k42 : own_Go p e below (s₁.setTop (entryFrame m #[(.int p0), (.ref r1), (.int p2)] 3)) (T40.setTop (mkF m 100 #[.val (.int p0), .val (.ref r1), .val (.int p2)] [(.int (p2 + (3 : Int32))), (.ref r1)])) := by
            intro t k
            refine k41 t ?_
            show Steps p.tables e below (T40.setTop (mkF m 96 #[.val (.int p0), .val (.ref r1), .val (.int p2)] [])) t
            refine XS.aloadN X40.here hx rfl (hb hby d2_96) rfl rfl ?_
            show Steps p.tables e below (T40.setTop (mkF m 97 #[.val (.int p0), .val (.ref r1), .val (.int p2)] [(.ref r1)])) t
            refine XS.iloadN X40.here hx rfl (hb hby d2_97) rfl ?_
            show Steps p.tables e below (T40.setTop (mkF m 98 #[.val (.int p0), .val (.ref r1), .val (.int p2)] [(.int p2), (.ref r1)])) t
            refine XS.iconst X40.here hx rfl (hb hby d2_98) ?_
            show Steps p.tables e below (T40.setTop (mkF m 99 #[.val (.int p0), .val (.ref r1), .val (.int p2)] [(.int (3 : Int32)), (.int p2), (.ref r1)])) t
            refine XS.iadd X40.here hx rfl (hb hby d2_99) rfl ?_
            exact k
          obtain ⟨T43, X43, e43, st43⟩ := getS2 X40 hx hZ hown (host := "") (Or.inl (hw _ (List.mem_of_getElem? (i := 10) rfl))) Via.refl e40 (((S_H.wr W31).wr W34).wr W40) (g := (mkF m 100 #[.val (.int p0), .val (.ref r1), .val (.int p2)] [(.int (p2 + (3 : Int32))), (.ref r1)])) rfl (hb hby d2_100)
          have k44 : own_Go p e below (s₁.setTop (entryFrame m #[(.int p0), (.ref r1), (.int p2)] 3)) (T43.setTop (mkF m 103 #[.val (.int p0), .val (.ref r1), .val (.int p2)] [(.ref wH), (.int (p2 + (3 : Int32))), (.ref r1)])) := fun t k => k42 t (st43 t k)
          have k45 : own_Go p e below (s₁.setTop (entryFrame m #[(.int p0), (.ref r1), (.int p2)] 3)) (T43.setTop (mkF m 111 #[.val (.int p0), .val (.ref r1), .val (.int p2)] [(.int (HX (((p0 >>> ((8 : Int32) &&& 31)) &&& (15 : Int32))).toNatClampNeg)), (.int (p2 + (3 : Int32))), (.ref r1)])) := by
            intro t k
            refine k44 t ?_
            show Steps p.tables e below (T43.setTop (mkF m 103 #[.val (.int p0), .val (.ref r1), .val (.int p2)] [(.ref wH), (.int (p2 + (3 : Int32))), (.ref r1)])) t
            refine XS.iloadN X43.here hx rfl (hb hby d2_103) rfl ?_
            show Steps p.tables e below (T43.setTop (mkF m 104 #[.val (.int p0), .val (.ref r1), .val (.int p2)] [(.int p0), (.ref wH), (.int (p2 + (3 : Int32))), (.ref r1)])) t
            refine XS.bipush X43.here hx rfl (hb hby d2_104) ?_
            show Steps p.tables e below (T43.setTop (mkF m 106 #[.val (.int p0), .val (.ref r1), .val (.int p2)] [(.int (8 : Int32)), (.int p0), (.ref wH), (.int (p2 + (3 : Int32))), (.ref r1)])) t
            refine XS.ishr X43.here hx rfl (hb hby d2_106) rfl ?_
            show Steps p.tables e below (T43.setTop (mkF m 107 #[.val (.int p0), .val (.ref r1), .val (.int p2)] [(.int (p0 >>> ((8 : Int32) &&& 31))), (.ref wH), (.int (p2 + (3 : Int32))), (.ref r1)])) t
            refine XS.bipush X43.here hx rfl (hb hby d2_107) ?_
            show Steps p.tables e below (T43.setTop (mkF m 109 #[.val (.int p0), .val (.ref r1), .val (.int p2)] [(.int (15 : Int32)), (.int (p0 >>> ((8 : Int32) &&& 31))), (.ref wH), (.int (p2 + (3 : Int32))), (.ref r1)])) t
            refine XS.iand X43.here hx rfl (hb hby d2_109) rfl ?_
            show Steps p.tables e below (T43.setTop (mkF m 110 #[.val (.int p0), .val (.ref r1), .val (.int p2)] [(.int ((p0 >>> ((8 : Int32) &&& 31)) &&& (15 : Int32))), (.ref wH), (.int (p2 + (3 : Int32))), (.ref r1)])) t
            refine own_bld X43 hx hZ e43 (((V_H.other W31 neH).other W34 neH).other W40 neH) (j := ((p0 >>> ((8 : Int32) &&& 31)) &&& (15 : Int32))) (own_h2 hc).1 (own_h2 hc).2 (g := (mkF m 110 #[.val (.int p0), .val (.ref r1), .val (.int p2)] [(.int ((p0 >>> ((8 : Int32) &&& 31)) &&& (15 : Int32))), (.ref wH), (.int (p2 + (3 : Int32))), (.ref r1)])) rfl rfl (hb hby d2_110) _ ?_
            exact k
          obtain ⟨T46, h46, X46, e46, W46, V46, st46⟩ := own_bst X43 hx hZ e43 V40' (j := (p2 + (3 : Int32))) (own_i3 hp).1 (own_i3 hp).2 (g := (mkF m 111 #[.val (.int p0), .val (.ref r1), .val (.int p2)] [(.int (HX (((p0 >>> ((8 : Int32) &&& 31)) &&& (15 : Int32))).toNatClampNeg)), (.int (p2 + (3 : Int32))), (.ref r1)])) rfl rfl (hb hby d2_111)
          have V46' : own_By Z h46 r1 14 (B2_111 p0 p2 B1 HX) := V46
          have Kp46 : Keep h0 h46 [r1] := Kp40.wr W46 (Or.inl (List.mem_of_getElem? (i := 0) rfl))
          have N46 := Fr.snoc X46 N40 g_r1
          have k47 : own_Go p e below (s₁.setTop (entryFrame m #[(.int p0), (.ref r1), (.int p2)] 3)) (T46.setTop (mkF m 112 #[.val (.int p0), .val (.ref r1), .val (.int p2)] [])) := fun t k => k45 t (st46 t k)
          have k48 : own_Go p e below (s₁.setTop (entryFrame m #[(.int p0), (.ref r1), (.int p2)] 3)) (T46.setTop (mkF m 116 #[.val (.int p0), .val (.ref r1), .val (.int p2)] [(.int (p2 + (4 : Int32))), (.ref r1)])) := by
            intro t k
            refine k47 t ?_
            show Steps p.tables e below (T46.setTop (mkF m 112 #[.val (.int p0), .val (.ref r1), .val (.int p2)] [])) t
            refine XS.aloadN X46.here hx rfl (hb hby d2_112) rfl rfl ?_
            show Steps p.tables e below (T46.setTop (mkF m 113 #[.val (.int p0), .val (.ref r1), .val (.int p2)] [(.ref r1)])) t
            refine XS.iloadN X46.here hx rfl (hb hby d2_113) rfl ?_
            show Steps p.tables e below (T46.setTop (mkF m 114 #[.val (.int p0), .val (.ref r1), .val (.int p2)] [(.int p2), (.ref r1)])) t
            refine XS.iconst X46.here hx rfl (hb hby d2_114) ?_
            show Steps p.tables e below (T46.setTop (mkF m 115 #[.val (.int p0), .val (.ref r1), .val (.int p2)] [(.int (4 : Int32)), (.int p2), (.ref r1)])) t
            refine XS.iadd X46.here hx rfl (hb hby d2_115) rfl ?_
            exact k
          obtain ⟨T49, X49, e49, st49⟩ := getS2 X46 hx hZ hown (host := "") (Or.inl (hw _ (List.mem_of_getElem? (i := 10) rfl))) Via.refl e46 ((((S_H.wr W31).wr W34).wr W40).wr W46) (g := (mkF m 116 #[.val (.int p0), .val (.ref r1), .val (.int p2)] [(.int (p2 + (4 : Int32))), (.ref r1)])) rfl (hb hby d2_116)
          have k50 : own_Go p e below (s₁.setTop (entryFrame m #[(.int p0), (.ref r1), (.int p2)] 3)) (T49.setTop (mkF m 119 #[.val (.int p0), .val (.ref r1), .val (.int p2)] [(.ref wH), (.int (p2 + (4 : Int32))), (.ref r1)])) := fun t k => k48 t (st49 t k)
          have k51 : own_Go p e below (s₁.setTop (entryFrame m #[(.int p0), (.ref r1), (.int p2)] 3)) (T49.setTop (mkF m 126 #[.val (.int p0), .val (.ref r1), .val (.int p2)] [(.int (HX (((p0 >>> ((4 : Int32) &&& 31)) &&& (15 : Int32))).toNatClampNeg)), (.int (p2 + (4 : Int32))), (.ref r1)])) := by
            intro t k
            refine k50 t ?_
            show Steps p.tables e below (T49.setTop (mkF m 119 #[.val (.int p0), .val (.ref r1), .val (.int p2)] [(.ref wH), (.int (p2 + (4 : Int32))), (.ref r1)])) t
            refine XS.iloadN X49.here hx rfl (hb hby d2_119) rfl ?_
            show Steps p.tables e below (T49.setTop (mkF m 120 #[.val (.int p0), .val (.ref r1), .val (.int p2)] [(.int p0), (.ref wH), (.int (p2 + (4 : Int32))), (.ref r1)])) t
            refine XS.iconst X49.here hx rfl (hb hby d2_120) ?_
            show Steps p.tables e below (T49.setTop (mkF m 121 #[.val (.int p0), .val (.ref r1), .val (.int p2)] [(.int (4 : Int32)), (.int p0), (.ref wH), (.int (p2 + (4 : Int32))), (.ref r1)])) t
            refine XS.ishr X49.here hx rfl (hb hby d2_121) rfl ?_
            show Steps p.tables e below (T49.setTop (mkF m 122 #[.val (.int p0), .val (.ref r1), .val (.int p2)] [(.int (p0 >>> ((4 : Int32) &&& 31))), (.ref wH), (.int (p2 + (4 : Int32))), (.ref r1)])) t
            refine XS.bipush X49.here hx rfl (hb hby d2_122) ?_
            show Steps p.tables e below (T49.setTop (mkF m 124 #[.val (.int p0), .val (.ref r1), .val (.int p2)] [(.int (15 : Int32)), (.int (p0 >>> ((4 : Int32) &&& 31))), (.ref wH), (.int (p2 + (4 : Int32))), (.ref r1)])) t
            refine XS.iand X49.here hx rfl (hb hby d2_124) rfl ?_
            show Steps p.tables e below (T49.setTop (mkF m 125 #[.val (.int p0), .val (.ref r1), .val (.int p2)] [(.int ((p0 >>> ((4 : Int32) &&& 31)) &&& (15 : Int32))), (.ref wH), (.int (p2 + (4 : Int32))), (.ref r1)])) t
            refine own_bld X49 hx hZ e49 ((((V_H.other W31 neH).other W34 neH).other W40 neH).other W46 neH) (j := ((p0 >>> ((4 : Int32) &&& 31)) &&& (15 : Int32))) (own_h3 hc).1 (own_h3 hc).2 (g := (mkF m 125 #[.val (.int p0), .val (.ref r1), .val (.int p2)] [(.int ((p0 >>> ((4 : Int32) &&& 31)) &&& (15 : Int32))), (.ref wH), (.int (p2 + (4 : Int32))), (.ref r1)])) rfl rfl (hb hby d2_125) _ ?_
            exact k
          obtain ⟨T52, h52, X52, e52, W52, V52, st52⟩ := own_bst X49 hx hZ e49 V46' (j := (p2 + (4 : Int32))) (own_i4 hp).1 (own_i4 hp).2 (g := (mkF m 126 #[.val (.int p0), .val (.ref r1), .val (.int p2)] [(.int (HX (((p0 >>> ((4 : Int32) &&& 31)) &&& (15 : Int32))).toNatClampNeg)), (.int (p2 + (4 : Int32))), (.ref r1)])) rfl rfl (hb hby d2_126)
          have V52' : own_By Z h52 r1 14 (B2_126 p0 p2 B1 HX) := V52
          have Kp52 : Keep h0 h52 [r1] := Kp46.wr W52 (Or.inl (List.mem_of_getElem? (i := 0) rfl))
          have N52 := Fr.snoc X52 N46 g_r1
          have k53 : own_Go p e below (s₁.setTop (entryFrame m #[(.int p0), (.ref r1), (.int p2)] 3)) (T52.setTop (mkF m 127 #[.val (.int p0), .val (.ref r1), .val (.int p2)] [])) := fun t k => k51 t (st52 t k)
          have k54 : own_Go p e below (s₁.setTop (entryFrame m #[(.int p0), (.ref r1), (.int p2)] 3)) (T52.setTop (mkF m 131 #[.val (.int p0), .val (.ref r1), .val (.int p2)] [(.int (p2 + (5 : Int32))), (.ref r1)])) := by
            intro t k
            refine k53 t ?_
            show Steps p.tables e below (T52.setTop (mkF m 127 #[.val (.int p0), .val (.ref r1), .val (.int p2)] [])) t
            refine XS.aloadN X52.here hx rfl (hb hby d2_127) rfl rfl ?_
            show Steps p.tables e below (T52.setTop (mkF m 128 #[.val (.int p0), .val (.ref r1), .val (.int p2)] [(.ref r1)])) t
            refine XS.iloadN X52.here hx rfl (hb hby d2_128) rfl ?_
            show Steps p.tables e below (T52.setTop (mkF m 129 #[.val (.int p0), .val (.ref r1), .val (.int p2)] [(.int p2), (.ref r1)])) t
            refine XS.iconst X52.here hx rfl (hb hby d2_129) ?_
            show Steps p.tables e below (T52.setTop (mkF m 130 #[.val (.int p0), .val (.ref r1), .val (.int p2)] [(.int (5 : Int32)), (.int p2), (.ref r1)])) t
            refine XS.iadd X52.here hx rfl (hb hby d2_130) rfl ?_
            exact k
          obtain ⟨T55, X55, e55, st55⟩ := getS2 X52 hx hZ hown (host := "") (Or.inl (hw _ (List.mem_of_getElem? (i := 10) rfl))) Via.refl e52 (((((S_H.wr W31).wr W34).wr W40).wr W46).wr W52) (g := (mkF m 131 #[.val (.int p0), .val (.ref r1), .val (.int p2)] [(.int (p2 + (5 : Int32))), (.ref r1)])) rfl (hb hby d2_131)
          have k56 : own_Go p e below (s₁.setTop (entryFrame m #[(.int p0), (.ref r1), (.int p2)] 3)) (T55.setTop (mkF m 134 #[.val (.int p0), .val (.ref r1), .val (.int p2)] [(.ref wH), (.int (p2 + (5 : Int32))), (.ref r1)])) := fun t k => k54 t (st55 t k)
          have k57 : own_Go p e below (s₁.setTop (entryFrame m #[(.int p0), (.ref r1), (.int p2)] 3)) (T55.setTop (mkF m 139 #[.val (.int p0), .val (.ref r1), .val (.int p2)] [(.int (HX ((p0 &&& (15 : Int32))).toNatClampNeg)), (.int (p2 + (5 : Int32))), (.ref r1)])) := by
            intro t k
            refine k56 t ?_
            show Steps p.tables e below (T55.setTop (mkF m 134 #[.val (.int p0), .val (.ref r1), .val (.int p2)] [(.ref wH), (.int (p2 + (5 : Int32))), (.ref r1)])) t
            refine XS.iloadN X55.here hx rfl (hb hby d2_134) rfl ?_
            show Steps p.tables e below (T55.setTop (mkF m 135 #[.val (.int p0), .val (.ref r1), .val (.int p2)] [(.int p0), (.ref wH), (.int (p2 + (5 : Int32))), (.ref r1)])) t
            refine XS.bipush X55.here hx rfl (hb hby d2_135) ?_
            show Steps p.tables e below (T55.setTop (mkF m 137 #[.val (.int p0), .val (.ref r1), .val (.int p2)] [(.int (15 : Int32)), (.int p0), (.ref wH), (.int (p2 + (5 : Int32))), (.ref r1)])) t
            refine XS.iand X55.here hx rfl (hb hby d2_137) rfl ?_
            show Steps p.tables e below (T55.setTop (mkF m 138 #[.val (.int p0), .val (.ref r1), .val (.int p2)] [(.int (p0 &&& (15 : Int32))), (.ref wH), (.int (p2 + (5 : Int32))), (.ref r1)])) t
            refine own_bld X55 hx hZ e55 (((((V_H.other W31 neH).other W34 neH).other W40 neH).other W46 neH).other W52 neH) (j := (p0 &&& (15 : Int32))) (own_h4 hc).1 (own_h4 hc).2 (g := (mkF m 138 #[.val (.int p0), .val (.ref r1), .val (.int p2)] [(.int (p0 &&& (15 : Int32))), (.ref wH), (.int (p2 + (5 : Int32))), (.ref r1)])) rfl rfl (hb hby d2_138) _ ?_
            exact k
          obtain ⟨T58, h58, X58, e58, W58, V58, st58⟩ := own_bst X55 hx hZ e55 V52' (j := (p2 + (5 : Int32))) (own_i5 hp).1 (own_i5 hp).2 (g := (mkF m 139 #[.val (.int p0), .val (.ref r1), .val (.int p2)] [(.int (HX ((p0 &&& (15 : Int32))).toNatClampNeg)), (.int (p2 + (5 : Int32))), (.ref r1)])) rfl rfl (hb hby d2_139)
          have V58' : own_By Z h58 r1 14 (B2_139 p0 p2 B1 HX) := V58
          have Kp58 : Keep h0 h58 [r1] := Kp52.wr W58 (Or.inl (List.mem_of_getElem? (i := 0) rfl))
          have N58 := Fr.snoc X58 N52 g_r1
          have k59 : own_Go p e below (s₁.setTop (entryFrame m #[(.int p0), (.ref r1), (.int p2)] 3)) (T58.setTop (mkF m 140 #[.val (.int p0), .val (.ref r1), .val (.int p2)] [])) := fun t k => k57 t (st58 t k)
          have k60 : own_Go p e below (s₁.setTop (entryFrame m #[(.int p0), (.ref r1), (.int p2)] 3)) (T58.setTop (mkF m 144 #[.val (.int p0), .val (.ref r1), .val (.int p2)] [(.int (p2 + (6 : Int32)))])) := by
            intro t k
            refine k59 t ?_
            show Steps p.tables e below (T58.setTop (mkF m 140 #[.val (.int p0), .val (.ref r1), .val (.int p2)] [])) t
            refine XS.iloadN X58.here hx rfl (hb hby d2_140) rfl ?_
            show Steps p.tables e below (T58.setTop (mkF m 141 #[.val (.int p0), .val (.ref r1), .val (.int p2)] [(.int p2)])) t
            refine XS.bipush X58.here hx rfl (hb hby d2_141) ?_
            show Steps p.tables e below (T58.setTop (mkF m 143 #[.val (.int p0), .val (.ref r1), .val (.int p2)] [(.int (6 : Int32)), (.int p2)])) t
            refine XS.iadd X58.here hx rfl (hb hby d2_143) rfl ?_
            exact k
          obtain ⟨fs, hr, hrun, hended, hW, hsame⟩ := X58.leave (v := some (.int (p2 + (6 : Int32)))) (fun h => by rw [Bd.returns] at h; cases h)
          refine ⟨_, _, k60 _ ?_, hrun, hended, _, _, rfl, ?_, ⟨_, rfl⟩, hW, hsame.mono (by decide) (by decide)⟩
          · exact retI X58 hx Bd.returns (hb hby d2_144) hr
          · show Q2 Z p0 r1 p2 B1 HX wH h0 n0 _ T58.heap _
            rw [e58]
            exact ⟨congrArg (fun z => some (Value.int z)) (show f2 p0 p2 B1 HX = (p2 + (6 : Int32)) from (by unfold f2; rw [if_neg hc3_2, if_neg hc9_11, if_pos hc31_20, if_neg hc52_22])).symm, N58, Kp58, (by rw [show G2 p0 p2 B1 HX = (B2_139 p0 p2 B1 HX) from (by unfold G2; rw [if_neg hc3_2, if_neg hc9_11, if_pos hc31_20, if_neg hc52_22])]; exact V58')⟩
      · have k61 : own_Go p e below (s₁.setTop (entryFrame m #[(.int p0), (.ref r1), (.int p2)] 3)) (s₁.setTop (mkF m 37 #[.val (.int p0), .val (.ref r1), .val (.int p2)] [(.int (126 : Int32)), (.int p0)])) := by
          intro t k
          refine k19 t ?_
          show Steps p.tables e below (s₁.setTop (mkF m 31 #[.val (.int p0), .val (.ref r1), .val (.int p2)] [(.int (32 : Int32)), (.int p0)])) t
          refine XS.icmpNo X0.here hx rfl (hb hby d2_31) rfl (flt hc31_20).1 ?_
          show Steps p.tables e below (s₁.setTop (mkF m 34 #[.val (.int p0), .val (.ref r1), .val (.int p2)] [])) t
          refine XS.iloadN X0.here hx rfl (hb hby d2_34) rfl ?_
          show Steps p.tables e below (s₁.setTop (mkF m 35 #[.val (.int p0), .val (.ref r1), .val (.int p2)] [(.int p0)])) t
          refine XS.bipush X0.here hx rfl (hb hby d2_35) ?_
          exact k
        by_cases hc37_62 : (126 : Int32) < p0
        · have k63 : own_Go p e below (s₁.setTop (entryFrame m #[(.int p0), (.ref r1), (.int p2)] 3)) (s₁.setTop (mkF m 52 #[.val (.int p0), .val (.ref r1), .val (.int p2)] [(.int (9 : Int32)), (.int p0)])) := by
            intro t k
            refine k61 t ?_
            show Steps p.tables e below (s₁.setTop (mkF m 37 #[.val (.int p0), .val (.ref r1), .val (.int p2)] [(.int (126 : Int32)), (.int p0)])) t
            refine XS.icmpYes X0.here hx rfl (pc0 := 37) (pc' := 49) rfl (hb hby d2_37) rfl (tlt hc37_62).2.2.1 (by decide) (by decide) ?_
            show Steps p.tables e below (s₁.setTop (mkF m 49 #[.val (.int p0), .val (.ref r1), .val (.int p2)] [])) t
            refine XS.iloadN X0.here hx rfl (hb hby d2_49) rfl ?_
            show Steps p.tables e below (s₁.setTop (mkF m 50 #[.val (.int p0), .val (.ref r1), .val (.int p2)] [(.int p0)])) t
            refine XS.bipush X0.here hx rfl (hb hby d2_50) ?_
            exact k
          by_cases hc52_64 : p0 = (9 : Int32)
          · have k65 : own_Go p e below (s₁.setTop (entryFrame m #[(.int p0), (.ref r1), (.int p2)] 3)) (s₁.setTop (mkF m 59 #[.val (.int p0), .val (.ref r1), .val (.int p2)] [(.int (92 : Int32)), (.int p2), (.ref r1)])) := by
              intro t k
              refine k63 t ?_
              show Steps p.tables e below (s₁.setTop (mkF m 52 #[.val (.int p0), .val (.ref r1), .val (.int p2)] [(.int (9 : Int32)), (.int p0)])) t
              refine XS.icmpNo X0.here hx rfl (hb hby d2_52) rfl (teq hc52_64).2 ?_
              show Steps p.tables e below (s₁.setTop (mkF m 55 #[.val (.int p0), .val (.ref r1), .val (.int p2)] [])) t
              refine XS.aloadN X0.here hx rfl (hb hby d2_55) rfl rfl ?_
              show Steps p.tables e below (s₁.setTop (mkF m 56 #[.val (.int p0), .val (.ref r1), .val (.int p2)] [(.ref r1)])) t
              refine XS.iloadN X0.here hx rfl (hb hby d2_56) rfl ?_
              show Steps p.tables e below (s₁.setTop (mkF m 57 #[.val (.int p0), .val (.ref r1), .val (.int p2)] [(.int p2), (.ref r1)])) t
              refine XS.bipush X0.here hx rfl (hb hby d2_57) ?_
              exact k
            obtain ⟨T66, h66, X66, e66, W66, V66, st66⟩ := own_bst X0 hx hZ e0 V_r1 (j := p2) (own_i0 hp).1 (own_i0 hp).2 (g := (mkF m 59 #[.val (.int p0), .val (.ref r1), .val (.int p2)] [(.int (92 : Int32)), (.int p2), (.ref r1)])) rfl rfl (hb hby d2_59)
            have V66' : own_By Z h66 r1 14 (B2_59 p2 B1) := V66
            have Kp66 : Keep h0 h66 [r1] := K0.wr W66 (Or.inl (List.mem_of_getElem? (i := 0) rfl))
            have N66 := Fr.snoc X66 N0 g_r1
            have k67 : own_Go p e below (s₁.setTop (entryFrame m #[(.int p0), (.ref r1), (.int p2)] 3)) (T66.setTop (mkF m 60 #[.val (.int p0), .val (.ref r1), .val (.int p2)] [])) := fun t k => k65 t (st66 t k)
            have k68 : own_Go p e below (s₁.setTop (entryFrame m #[(.int p0), (.ref r1), (.int p2)] 3)) (T66.setTop (mkF m 66 #[.val (.int p0), .val (.ref r1), .val (.int p2)] [(.int (116 : Int32)), (.int (p2 + (1 : Int32))), (.ref r1)])) := by
              intro t k
              refine k67 t ?_
              show Steps p.tables e below (T66.setTop (mkF m 60 #[.val (.int p0), .val (.ref r1), .val (.int p2)] [])) t
              refine XS.aloadN X66.here hx rfl (hb hby d2_60) rfl rfl ?_
              show Steps p.tables e below (T66.setTop (mkF m 61 #[.val (.int p0), .val (.ref r1), .val (.int p2)] [(.ref r1)])) t
              refine XS.iloadN X66.here hx rfl (hb hby d2_61) rfl ?_
              show Steps p.tables e below (T66.setTop (mkF m 62 #[.val (.int p0), .val (.ref r1), .val (.int p2)] [(.int p2), (.ref r1)])) t
              refine XS.iconst X66.here hx rfl (hb hby d2_62) ?_
              show Steps p.tables e below (T66.setTop (mkF m 63 #[.val (.int p0), .val (.ref r1), .val (.int p2)] [(.int (1 : Int32)), (.int p2), (.ref r1)])) t
              refine XS.iadd X66.here hx rfl (hb hby d2_63) rfl ?_
              show Steps p.tables e below (T66.setTop (mkF m 64 #[.val (.int p0), .val (.ref r1), .val (.int p2)] [(.int (p2 + (1 : Int32))), (.ref r1)])) t
              refine XS.bipush X66.here hx rfl (hb hby d2_64) ?_
              exact k
            obtain ⟨T69, h69, X69, e69, W69, V69, st69⟩ := own_bst X66 hx hZ e66 V66' (j := (p2 + (1 : Int32))) (own_i1 hp).1 (own_i1 hp).2 (g := (mkF m 66 #[.val (.int p0), .val (.ref r1), .val (.int p2)] [(.int (116 : Int32)), (.int (p2 + (1 : Int32))), (.ref r1)])) rfl rfl (hb hby d2_66)
            have V69' : own_By Z h69 r1 14 (B2_66 p2 B1) := V69
            have Kp69 : Keep h0 h69 [r1] := Kp66.wr W69 (Or.inl (List.mem_of_getElem? (i := 0) rfl))
            have N69 := Fr.snoc X69 N66 g_r1
            have k70 : own_Go p e below (s₁.setTop (entryFrame m #[(.int p0), (.ref r1), (.int p2)] 3)) (T69.setTop (mkF m 67 #[.val (.int p0), .val (.ref r1), .val (.int p2)] [])) := fun t k => k68 t (st69 t k)
            have k71 : own_Go p e below (s₁.setTop (entryFrame m #[(.int p0), (.ref r1), (.int p2)] 3)) (T69.setTop (mkF m 70 #[.val (.int p0), .val (.ref r1), .val (.int p2)] [(.int (p2 + (2 : Int32)))])) := by
              intro t k
              refine k70 t ?_
              show Steps p.tables e below (T69.setTop (mkF m 67 #[.val (.int p0), .val (.ref r1), .val (.int p2)] [])) t
              refine XS.iloadN X69.here hx rfl (hb hby d2_67) rfl ?_
              show Steps p.tables e below (T69.setTop (mkF m 68 #[.val (.int p0), .val (.ref r1), .val (.int p2)] [(.int p2)])) t
              refine XS.iconst X69.here hx rfl (hb hby d2_68) ?_
              show Steps p.tables e below (T69.setTop (mkF m 69 #[.val (.int p0), .val (.ref r1), .val (.int p2)] [(.int (2 : Int32)), (.int p2)])) t
              refine XS.iadd X69.here hx rfl (hb hby d2_69) rfl ?_
              exact k
            obtain ⟨fs, hr, hrun, hended, hW, hsame⟩ := X69.leave (v := some (.int (p2 + (2 : Int32)))) (fun h => by rw [Bd.returns] at h; cases h)
            refine ⟨_, _, k71 _ ?_, hrun, hended, _, _, rfl, ?_, ⟨_, rfl⟩, hW, hsame.mono (by decide) (by decide)⟩
            · exact retI X69 hx Bd.returns (hb hby d2_70) hr
            · show Q2 Z p0 r1 p2 B1 HX wH h0 n0 _ T69.heap _
              rw [e69]
              exact ⟨congrArg (fun z => some (Value.int z)) (show f2 p0 p2 B1 HX = (p2 + (2 : Int32)) from (by unfold f2; rw [if_neg hc3_2, if_neg hc9_11, if_neg hc31_20, if_pos hc37_62, if_pos hc52_64])).symm, N69, Kp69, (by rw [show G2 p0 p2 B1 HX = (B2_66 p2 B1) from (by unfold G2; rw [if_neg hc3_2, if_neg hc9_11, if_neg hc31_20, if_pos hc37_62, if_pos hc52_64])]; exact V69')⟩
          · have k72 : own_Go p e below (s₁.setTop (entryFrame m #[(.int p0), (.ref r1), (.int p2)] 3)) (s₁.setTop (mkF m 75 #[.val (.int p0), .val (.ref r1), .val (.int p2)] [(.int (92 : Int32)), (.int p2), (.ref r1)])) := by
              intro t k
              refine k63 t ?_
              show Steps p.tables e below (s₁.setTop (mkF m 52 #[.val (.int p0), .val (.ref r1), .val (.int p2)] [(.int (9 : Int32)), (.int p0)])) t
              refine XS.icmpYes X0.here hx rfl (pc0 := 52) (pc' := 71) rfl (hb hby d2_52) rfl (feq hc52_64).2 (by decide) (by decide) ?_
              show Steps p.tables e below (s₁.setTop (mkF m 71 #[.val (.int p0), .val (.ref r1), .val (.int p2)] [])) t
              refine XS.aloadN X0.here hx rfl (hb hby d2_71) rfl rfl ?_
              show Steps p.tables e below (s₁.setTop (mkF m 72 #[.val (.int p0), .val (.ref r1), .val (.int p2)] [(.ref r1)])) t
              refine XS.iloadN X0.here hx rfl (hb hby d2_72) rfl ?_
              show Steps p.tables e below (s₁.setTop (mkF m 73 #[.val (.int p0), .val (.ref r1), .val (.int p2)] [(.int p2), (.ref r1)])) t
              refine XS.bipush X0.here hx rfl (hb hby d2_73) ?_
              exact k
            obtain ⟨T73, h73, X73, e73, W73, V73, st73⟩ := own_bst X0 hx hZ e0 V_r1 (j := p2) (own_i0 hp).1 (own_i0 hp).2 (g := (mkF m 75 #[.val (.int p0), .val (.ref r1), .val (.int p2)] [(.int (92 : Int32)), (.int p2), (.ref r1)])) rfl rfl (hb hby d2_75)
            have V73' : own_By Z h73 r1 14 (B2_75 p2 B1) := V73
            have Kp73 : Keep h0 h73 [r1] := K0.wr W73 (Or.inl (List.mem_of_getElem? (i := 0) rfl))
            have N73 := Fr.snoc X73 N0 g_r1
            have k74 : own_Go p e below (s₁.setTop (entryFrame m #[(.int p0), (.ref r1), (.int p2)] 3)) (T73.setTop (mkF m 76 #[.val (.int p0), .val (.ref r1), .val (.int p2)] [])) := fun t k => k72 t (st73 t k)
            have k75 : own_Go p e below (s₁.setTop (entryFrame m #[(.int p0), (.ref r1), (.int p2)] 3)) (T73.setTop (mkF m 82 #[.val (.int p0), .val (.ref r1), .val (.int p2)] [(.int (117 : Int32)), (.int (p2 + (1 : Int32))), (.ref r1)])) := by
              intro t k
              refine k74 t ?_
              show Steps p.tables e below (T73.setTop (mkF m 76 #[.val (.int p0), .val (.ref r1), .val (.int p2)] [])) t
              refine XS.aloadN X73.here hx rfl (hb hby d2_76) rfl rfl ?_
              show Steps p.tables e below (T73.setTop (mkF m 77 #[.val (.int p0), .val (.ref r1), .val (.int p2)] [(.ref r1)])) t
              refine XS.iloadN X73.here hx rfl (hb hby d2_77) rfl ?_
              show Steps p.tables e below (T73.setTop (mkF m 78 #[.val (.int p0), .val (.ref r1), .val (.int p2)] [(.int p2), (.ref r1)])) t
              refine XS.iconst X73.here hx rfl (hb hby d2_78) ?_
              show Steps p.tables e below (T73.setTop (mkF m 79 #[.val (.int p0), .val (.ref r1), .val (.int p2)] [(.int (1 : Int32)), (.int p2), (.ref r1)])) t
              refine XS.iadd X73.here hx rfl (hb hby d2_79) rfl ?_
              show Steps p.tables e below (T73.setTop (mkF m 80 #[.val (.int p0), .val (.ref r1), .val (.int p2)] [(.int (p2 + (1 : Int32))), (.ref r1)])) t
              refine XS.bipush X73.here hx rfl (hb hby d2_80) ?_
              exact k
            obtain ⟨T76, h76, X76, e76, W76, V76, st76⟩ := own_bst X73 hx hZ e73 V73' (j := (p2 + (1 : Int32))) (own_i1 hp).1 (own_i1 hp).2 (g := (mkF m 82 #[.val (.int p0), .val (.ref r1), .val (.int p2)] [(.int (117 : Int32)), (.int (p2 + (1 : Int32))), (.ref r1)])) rfl rfl (hb hby d2_82)
            have V76' : own_By Z h76 r1 14 (B2_82 p2 B1) := V76
            have Kp76 : Keep h0 h76 [r1] := Kp73.wr W76 (Or.inl (List.mem_of_getElem? (i := 0) rfl))
            have N76 := Fr.snoc X76 N73 g_r1
            have k77 : own_Go p e below (s₁.setTop (entryFrame m #[(.int p0), (.ref r1), (.int p2)] 3)) (T76.setTop (mkF m 83 #[.val (.int p0), .val (.ref r1), .val (.int p2)] [])) := fun t k => k75 t (st76 t k)
            have k78 : own_Go p e below (s₁.setTop (entryFrame m #[(.int p0), (.ref r1), (.int p2)] 3)) (T76.setTop (mkF m 87 #[.val (.int p0), .val (.ref r1), .val (.int p2)] [(.int (p2 + (2 : Int32))), (.ref r1)])) := by
              intro t k
              refine k77 t ?_
              show Steps p.tables e below (T76.setTop (mkF m 83 #[.val (.int p0), .val (.ref r1), .val (.int p2)] [])) t
              refine XS.aloadN X76.here hx rfl (hb hby d2_83) rfl rfl ?_
              show Steps p.tables e below (T76.setTop (mkF m 84 #[.val (.int p0), .val (.ref r1), .val (.int p2)] [(.ref r1)])) t
              refine XS.iloadN X76.here hx rfl (hb hby d2_84) rfl ?_
              show Steps p.tables e below (T76.setTop (mkF m 85 #[.val (.int p0), .val (.ref r1), .val (.int p2)] [(.int p2), (.ref r1)])) t
              refine XS.iconst X76.here hx rfl (hb hby d2_85) ?_
              show Steps p.tables e below (T76.setTop (mkF m 86 #[.val (.int p0), .val (.ref r1), .val (.int p2)] [(.int (2 : Int32)), (.int p2), (.ref r1)])) t
              refine XS.iadd X76.here hx rfl (hb hby d2_86) rfl ?_
              exact k
            obtain ⟨T79, X79, e79, st79⟩ := getS2 X76 hx hZ hown (host := "") (Or.inl (hw _ (List.mem_of_getElem? (i := 10) rfl))) Via.refl e76 ((S_H.wr W73).wr W76) (g := (mkF m 87 #[.val (.int p0), .val (.ref r1), .val (.int p2)] [(.int (p2 + (2 : Int32))), (.ref r1)])) rfl (hb hby d2_87)
            have k80 : own_Go p e below (s₁.setTop (entryFrame m #[(.int p0), (.ref r1), (.int p2)] 3)) (T79.setTop (mkF m 90 #[.val (.int p0), .val (.ref r1), .val (.int p2)] [(.ref wH), (.int (p2 + (2 : Int32))), (.ref r1)])) := fun t k => k78 t (st79 t k)
            have k81 : own_Go p e below (s₁.setTop (entryFrame m #[(.int p0), (.ref r1), (.int p2)] 3)) (T79.setTop (mkF m 95 #[.val (.int p0), .val (.ref r1), .val (.int p2)] [(.int (HX ((p0 >>> ((12 : Int32) &&& 31))).toNatClampNeg)), (.int (p2 + (2 : Int32))), (.ref r1)])) := by
              intro t k
              refine k80 t ?_
              show Steps p.tables e below (T79.setTop (mkF m 90 #[.val (.int p0), .val (.ref r1), .val (.int p2)] [(.ref wH), (.int (p2 + (2 : Int32))), (.ref r1)])) t
              refine XS.iloadN X79.here hx rfl (hb hby d2_90) rfl ?_
              show Steps p.tables e below (T79.setTop (mkF m 91 #[.val (.int p0), .val (.ref r1), .val (.int p2)] [(.int p0), (.ref wH), (.int (p2 + (2 : Int32))), (.ref r1)])) t
              refine XS.bipush X79.here hx rfl (hb hby d2_91) ?_
              show Steps p.tables e below (T79.setTop (mkF m 93 #[.val (.int p0), .val (.ref r1), .val (.int p2)] [(.int (12 : Int32)), (.int p0), (.ref wH), (.int (p2 + (2 : Int32))), (.ref r1)])) t
              refine XS.ishr X79.here hx rfl (hb hby d2_93) rfl ?_
              show Steps p.tables e below (T79.setTop (mkF m 94 #[.val (.int p0), .val (.ref r1), .val (.int p2)] [(.int (p0 >>> ((12 : Int32) &&& 31))), (.ref wH), (.int (p2 + (2 : Int32))), (.ref r1)])) t
              refine own_bld X79 hx hZ e79 ((V_H.other W73 neH).other W76 neH) (j := (p0 >>> ((12 : Int32) &&& 31))) (own_h1 hc).1 (own_h1 hc).2 (g := (mkF m 94 #[.val (.int p0), .val (.ref r1), .val (.int p2)] [(.int (p0 >>> ((12 : Int32) &&& 31))), (.ref wH), (.int (p2 + (2 : Int32))), (.ref r1)])) rfl rfl (hb hby d2_94) _ ?_
              exact k
            obtain ⟨T82, h82, X82, e82, W82, V82, st82⟩ := own_bst X79 hx hZ e79 V76' (j := (p2 + (2 : Int32))) (own_i2 hp).1 (own_i2 hp).2 (g := (mkF m 95 #[.val (.int p0), .val (.ref r1), .val (.int p2)] [(.int (HX ((p0 >>> ((12 : Int32) &&& 31))).toNatClampNeg)), (.int (p2 + (2 : Int32))), (.ref r1)])) rfl rfl (hb hby d2_95)
            have V82' : own_By Z h82 r1 14 (B2_95 p0 p2 B1 HX) := V82
            have Kp82 : Keep h0 h82 [r1] := Kp76.wr W82 (Or.inl (List.mem_of_getElem? (i := 0) rfl))
            have N82 := Fr.snoc X82 N76 g_r1
            have k83 : own_Go p e below (s₁.setTop (entryFrame m #[(.int p0), (.ref r1), (.int p2)] 3)) (T82.setTop (mkF m 96 #[.val (.int p0), .val (.ref r1), .val (.int p2)] [])) := fun t k => k81 t (st82 t k)
            have k84 : own_Go p e below (s₁.setTop (entryFrame m #[(.int p0), (.ref r1), (.int p2)] 3)) (T82.setTop (mkF m 100 #[.val (.int p0), .val (.ref r1), .val (.int p2)] [(.int (p2 + (3 : Int32))), (.ref r1)])) := by
              intro t k
              refine k83 t ?_
              show Steps p.tables e below (T82.setTop (mkF m 96 #[.val (.int p0), .val (.ref r1), .val (.int p2)] [])) t
              refine XS.aloadN X82.here hx rfl (hb hby d2_96) rfl rfl ?_
              show Steps p.tables e below (T82.setTop (mkF m 97 #[.val (.int p0), .val (.ref r1), .val (.int p2)] [(.ref r1)])) t
              refine XS.iloadN X82.here hx rfl (hb hby d2_97) rfl ?_
              show Steps p.tables e below (T82.setTop (mkF m 98 #[.val (.int p0), .val (.ref r1), .val (.int p2)] [(.int p2), (.ref r1)])) t
              refine XS.iconst X82.here hx rfl (hb hby d2_98) ?_
              show Steps p.tables e below (T82.setTop (mkF m 99 #[.val (.int p0), .val (.ref r1), .val (.int p2)] [(.int (3 : Int32)), (.int p2), (.ref r1)])) t
              refine XS.iadd X82.here hx rfl (hb hby d2_99) rfl ?_
              exact k
            obtain ⟨T85, X85, e85, st85⟩ := getS2 X82 hx hZ hown (host := "") (Or.inl (hw _ (List.mem_of_getElem? (i := 10) rfl))) Via.refl e82 (((S_H.wr W73).wr W76).wr W82) (g := (mkF m 100 #[.val (.int p0), .val (.ref r1), .val (.int p2)] [(.int (p2 + (3 : Int32))), (.ref r1)])) rfl (hb hby d2_100)
            have k86 : own_Go p e below (s₁.setTop (entryFrame m #[(.int p0), (.ref r1), (.int p2)] 3)) (T85.setTop (mkF m 103 #[.val (.int p0), .val (.ref r1), .val (.int p2)] [(.ref wH), (.int (p2 + (3 : Int32))), (.ref r1)])) := fun t k => k84 t (st85 t k)
            have k87 : own_Go p e below (s₁.setTop (entryFrame m #[(.int p0), (.ref r1), (.int p2)] 3)) (T85.setTop (mkF m 111 #[.val (.int p0), .val (.ref r1), .val (.int p2)] [(.int (HX (((p0 >>> ((8 : Int32) &&& 31)) &&& (15 : Int32))).toNatClampNeg)), (.int (p2 + (3 : Int32))), (.ref r1)])) := by
              intro t k
              refine k86 t ?_
              show Steps p.tables e below (T85.setTop (mkF m 103 #[.val (.int p0), .val (.ref r1), .val (.int p2)] [(.ref wH), (.int (p2 + (3 : Int32))), (.ref r1)])) t
              refine XS.iloadN X85.here hx rfl (hb hby d2_103) rfl ?_
              show Steps p.tables e below (T85.setTop (mkF m 104 #[.val (.int p0), .val (.ref r1), .val (.int p2)] [(.int p0), (.ref wH), (.int (p2 + (3 : Int32))), (.ref r1)])) t
              refine XS.bipush X85.here hx rfl (hb hby d2_104) ?_
              show Steps p.tables e below (T85.setTop (mkF m 106 #[.val (.int p0), .val (.ref r1), .val (.int p2)] [(.int (8 : Int32)), (.int p0), (.ref wH), (.int (p2 + (3 : Int32))), (.ref r1)])) t
              refine XS.ishr X85.here hx rfl (hb hby d2_106) rfl ?_
              show Steps p.tables e below (T85.setTop (mkF m 107 #[.val (.int p0), .val (.ref r1), .val (.int p2)] [(.int (p0 >>> ((8 : Int32) &&& 31))), (.ref wH), (.int (p2 + (3 : Int32))), (.ref r1)])) t
              refine XS.bipush X85.here hx rfl (hb hby d2_107) ?_
              show Steps p.tables e below (T85.setTop (mkF m 109 #[.val (.int p0), .val (.ref r1), .val (.int p2)] [(.int (15 : Int32)), (.int (p0 >>> ((8 : Int32) &&& 31))), (.ref wH), (.int (p2 + (3 : Int32))), (.ref r1)])) t
              refine XS.iand X85.here hx rfl (hb hby d2_109) rfl ?_
              show Steps p.tables e below (T85.setTop (mkF m 110 #[.val (.int p0), .val (.ref r1), .val (.int p2)] [(.int ((p0 >>> ((8 : Int32) &&& 31)) &&& (15 : Int32))), (.ref wH), (.int (p2 + (3 : Int32))), (.ref r1)])) t
              refine own_bld X85 hx hZ e85 (((V_H.other W73 neH).other W76 neH).other W82 neH) (j := ((p0 >>> ((8 : Int32) &&& 31)) &&& (15 : Int32))) (own_h2 hc).1 (own_h2 hc).2 (g := (mkF m 110 #[.val (.int p0), .val (.ref r1), .val (.int p2)] [(.int ((p0 >>> ((8 : Int32) &&& 31)) &&& (15 : Int32))), (.ref wH), (.int (p2 + (3 : Int32))), (.ref r1)])) rfl rfl (hb hby d2_110) _ ?_
              exact k
            obtain ⟨T88, h88, X88, e88, W88, V88, st88⟩ := own_bst X85 hx hZ e85 V82' (j := (p2 + (3 : Int32))) (own_i3 hp).1 (own_i3 hp).2 (g := (mkF m 111 #[.val (.int p0), .val (.ref r1), .val (.int p2)] [(.int (HX (((p0 >>> ((8 : Int32) &&& 31)) &&& (15 : Int32))).toNatClampNeg)), (.int (p2 + (3 : Int32))), (.ref r1)])) rfl rfl (hb hby d2_111)
            have V88' : own_By Z h88 r1 14 (B2_111 p0 p2 B1 HX) := V88
            have Kp88 : Keep h0 h88 [r1] := Kp82.wr W88 (Or.inl (List.mem_of_getElem? (i := 0) rfl))
            have N88 := Fr.snoc X88 N82 g_r1
            have k89 : own_Go p e below (s₁.setTop (entryFrame m #[(.int p0), (.ref r1), (.int p2)] 3)) (T88.setTop (mkF m 112 #[.val (.int p0), .val (.ref r1), .val (.int p2)] [])) := fun t k => k87 t (st88 t k)
            have k90 : own_Go p e below (s₁.setTop (entryFrame m #[(.int p0), (.ref r1), (.int p2)] 3)) (T88.setTop (mkF m 116 #[.val (.int p0), .val (.ref r1), .val (.int p2)] [(.int (p2 + (4 : Int32))), (.ref r1)])) := by
              intro t k
              refine k89 t ?_
              show Steps p.tables e below (T88.setTop (mkF m 112 #[.val (.int p0), .val (.ref r1), .val (.int p2)] [])) t
              refine XS.aloadN X88.here hx rfl (hb hby d2_112) rfl rfl ?_
              show Steps p.tables e below (T88.setTop (mkF m 113 #[.val (.int p0), .val (.ref r1), .val (.int p2)] [(.ref r1)])) t
              refine XS.iloadN X88.here hx rfl (hb hby d2_113) rfl ?_
              show Steps p.tables e below (T88.setTop (mkF m 114 #[.val (.int p0), .val (.ref r1), .val (.int p2)] [(.int p2), (.ref r1)])) t
              refine XS.iconst X88.here hx rfl (hb hby d2_114) ?_
              show Steps p.tables e below (T88.setTop (mkF m 115 #[.val (.int p0), .val (.ref r1), .val (.int p2)] [(.int (4 : Int32)), (.int p2), (.ref r1)])) t
              refine XS.iadd X88.here hx rfl (hb hby d2_115) rfl ?_
              exact k
            obtain ⟨T91, X91, e91, st91⟩ := getS2 X88 hx hZ hown (host := "") (Or.inl (hw _ (List.mem_of_getElem? (i := 10) rfl))) Via.refl e88 ((((S_H.wr W73).wr W76).wr W82).wr W88) (g := (mkF m 116 #[.val (.int p0), .val (.ref r1), .val (.int p2)] [(.int (p2 + (4 : Int32))), (.ref r1)])) rfl (hb hby d2_116)
            have k92 : own_Go p e below (s₁.setTop (entryFrame m #[(.int p0), (.ref r1), (.int p2)] 3)) (T91.setTop (mkF m 119 #[.val (.int p0), .val (.ref r1), .val (.int p2)] [(.ref wH), (.int (p2 + (4 : Int32))), (.ref r1)])) := fun t k => k90 t (st91 t k)
            have k93 : own_Go p e below (s₁.setTop (entryFrame m #[(.int p0), (.ref r1), (.int p2)] 3)) (T91.setTop (mkF m 126 #[.val (.int p0), .val (.ref r1), .val (.int p2)] [(.int (HX (((p0 >>> ((4 : Int32) &&& 31)) &&& (15 : Int32))).toNatClampNeg)), (.int (p2 + (4 : Int32))), (.ref r1)])) := by
              intro t k
              refine k92 t ?_
              show Steps p.tables e below (T91.setTop (mkF m 119 #[.val (.int p0), .val (.ref r1), .val (.int p2)] [(.ref wH), (.int (p2 + (4 : Int32))), (.ref r1)])) t
              refine XS.iloadN X91.here hx rfl (hb hby d2_119) rfl ?_
              show Steps p.tables e below (T91.setTop (mkF m 120 #[.val (.int p0), .val (.ref r1), .val (.int p2)] [(.int p0), (.ref wH), (.int (p2 + (4 : Int32))), (.ref r1)])) t
              refine XS.iconst X91.here hx rfl (hb hby d2_120) ?_
              show Steps p.tables e below (T91.setTop (mkF m 121 #[.val (.int p0), .val (.ref r1), .val (.int p2)] [(.int (4 : Int32)), (.int p0), (.ref wH), (.int (p2 + (4 : Int32))), (.ref r1)])) t
              refine XS.ishr X91.here hx rfl (hb hby d2_121) rfl ?_
              show Steps p.tables e below (T91.setTop (mkF m 122 #[.val (.int p0), .val (.ref r1), .val (.int p2)] [(.int (p0 >>> ((4 : Int32) &&& 31))), (.ref wH), (.int (p2 + (4 : Int32))), (.ref r1)])) t
              refine XS.bipush X91.here hx rfl (hb hby d2_122) ?_
              show Steps p.tables e below (T91.setTop (mkF m 124 #[.val (.int p0), .val (.ref r1), .val (.int p2)] [(.int (15 : Int32)), (.int (p0 >>> ((4 : Int32) &&& 31))), (.ref wH), (.int (p2 + (4 : Int32))), (.ref r1)])) t
              refine XS.iand X91.here hx rfl (hb hby d2_124) rfl ?_
              show Steps p.tables e below (T91.setTop (mkF m 125 #[.val (.int p0), .val (.ref r1), .val (.int p2)] [(.int ((p0 >>> ((4 : Int32) &&& 31)) &&& (15 : Int32))), (.ref wH), (.int (p2 + (4 : Int32))), (.ref r1)])) t
              refine own_bld X91 hx hZ e91 ((((V_H.other W73 neH).other W76 neH).other W82 neH).other W88 neH) (j := ((p0 >>> ((4 : Int32) &&& 31)) &&& (15 : Int32))) (own_h3 hc).1 (own_h3 hc).2 (g := (mkF m 125 #[.val (.int p0), .val (.ref r1), .val (.int p2)] [(.int ((p0 >>> ((4 : Int32) &&& 31)) &&& (15 : Int32))), (.ref wH), (.int (p2 + (4 : Int32))), (.ref r1)])) rfl rfl (hb hby d2_125) _ ?_
              exact k
            obtain ⟨T94, h94, X94, e94, W94, V94, st94⟩ := own_bst X91 hx hZ e91 V88' (j := (p2 + (4 : Int32))) (own_i4 hp).1 (own_i4 hp).2 (g := (mkF m 126 #[.val (.int p0), .val (.ref r1), .val (.int p2)] [(.int (HX (((p0 >>> ((4 : Int32) &&& 31)) &&& (15 : Int32))).toNatClampNeg)), (.int (p2 + (4 : Int32))), (.ref r1)])) rfl rfl (hb hby d2_126)
            have V94' : own_By Z h94 r1 14 (B2_126 p0 p2 B1 HX) := V94
            have Kp94 : Keep h0 h94 [r1] := Kp88.wr W94 (Or.inl (List.mem_of_getElem? (i := 0) rfl))
            have N94 := Fr.snoc X94 N88 g_r1
            have k95 : own_Go p e below (s₁.setTop (entryFrame m #[(.int p0), (.ref r1), (.int p2)] 3)) (T94.setTop (mkF m 127 #[.val (.int p0), .val (.ref r1), .val (.int p2)] [])) := fun t k => k93 t (st94 t k)
            have k96 : own_Go p e below (s₁.setTop (entryFrame m #[(.int p0), (.ref r1), (.int p2)] 3)) (T94.setTop (mkF m 131 #[.val (.int p0), .val (.ref r1), .val (.int p2)] [(.int (p2 + (5 : Int32))), (.ref r1)])) := by
              intro t k
              refine k95 t ?_
              show Steps p.tables e below (T94.setTop (mkF m 127 #[.val (.int p0), .val (.ref r1), .val (.int p2)] [])) t
              refine XS.aloadN X94.here hx rfl (hb hby d2_127) rfl rfl ?_
              show Steps p.tables e below (T94.setTop (mkF m 128 #[.val (.int p0), .val (.ref r1), .val (.int p2)] [(.ref r1)])) t
              refine XS.iloadN X94.here hx rfl (hb hby d2_128) rfl ?_
              show Steps p.tables e below (T94.setTop (mkF m 129 #[.val (.int p0), .val (.ref r1), .val (.int p2)] [(.int p2), (.ref r1)])) t
              refine XS.iconst X94.here hx rfl (hb hby d2_129) ?_
              show Steps p.tables e below (T94.setTop (mkF m 130 #[.val (.int p0), .val (.ref r1), .val (.int p2)] [(.int (5 : Int32)), (.int p2), (.ref r1)])) t
              refine XS.iadd X94.here hx rfl (hb hby d2_130) rfl ?_
              exact k
            obtain ⟨T97, X97, e97, st97⟩ := getS2 X94 hx hZ hown (host := "") (Or.inl (hw _ (List.mem_of_getElem? (i := 10) rfl))) Via.refl e94 (((((S_H.wr W73).wr W76).wr W82).wr W88).wr W94) (g := (mkF m 131 #[.val (.int p0), .val (.ref r1), .val (.int p2)] [(.int (p2 + (5 : Int32))), (.ref r1)])) rfl (hb hby d2_131)
            have k98 : own_Go p e below (s₁.setTop (entryFrame m #[(.int p0), (.ref r1), (.int p2)] 3)) (T97.setTop (mkF m 134 #[.val (.int p0), .val (.ref r1), .val (.int p2)] [(.ref wH), (.int (p2 + (5 : Int32))), (.ref r1)])) := fun t k => k96 t (st97 t k)
            have k99 : own_Go p e below (s₁.setTop (entryFrame m #[(.int p0), (.ref r1), (.int p2)] 3)) (T97.setTop (mkF m 139 #[.val (.int p0), .val (.ref r1), .val (.int p2)] [(.int (HX ((p0 &&& (15 : Int32))).toNatClampNeg)), (.int (p2 + (5 : Int32))), (.ref r1)])) := by
              intro t k
              refine k98 t ?_
              show Steps p.tables e below (T97.setTop (mkF m 134 #[.val (.int p0), .val (.ref r1), .val (.int p2)] [(.ref wH), (.int (p2 + (5 : Int32))), (.ref r1)])) t
              refine XS.iloadN X97.here hx rfl (hb hby d2_134) rfl ?_
              show Steps p.tables e below (T97.setTop (mkF m 135 #[.val (.int p0), .val (.ref r1), .val (.int p2)] [(.int p0), (.ref wH), (.int (p2 + (5 : Int32))), (.ref r1)])) t
              refine XS.bipush X97.here hx rfl (hb hby d2_135) ?_
              show Steps p.tables e below (T97.setTop (mkF m 137 #[.val (.int p0), .val (.ref r1), .val (.int p2)] [(.int (15 : Int32)), (.int p0), (.ref wH), (.int (p2 + (5 : Int32))), (.ref r1)])) t
              refine XS.iand X97.here hx rfl (hb hby d2_137) rfl ?_
              show Steps p.tables e below (T97.setTop (mkF m 138 #[.val (.int p0), .val (.ref r1), .val (.int p2)] [(.int (p0 &&& (15 : Int32))), (.ref wH), (.int (p2 + (5 : Int32))), (.ref r1)])) t
              refine own_bld X97 hx hZ e97 (((((V_H.other W73 neH).other W76 neH).other W82 neH).other W88 neH).other W94 neH) (j := (p0 &&& (15 : Int32))) (own_h4 hc).1 (own_h4 hc).2 (g := (mkF m 138 #[.val (.int p0), .val (.ref r1), .val (.int p2)] [(.int (p0 &&& (15 : Int32))), (.ref wH), (.int (p2 + (5 : Int32))), (.ref r1)])) rfl rfl (hb hby d2_138) _ ?_
              exact k
            obtain ⟨T100, h100, X100, e100, W100, V100, st100⟩ := own_bst X97 hx hZ e97 V94' (j := (p2 + (5 : Int32))) (own_i5 hp).1 (own_i5 hp).2 (g := (mkF m 139 #[.val (.int p0), .val (.ref r1), .val (.int p2)] [(.int (HX ((p0 &&& (15 : Int32))).toNatClampNeg)), (.int (p2 + (5 : Int32))), (.ref r1)])) rfl rfl (hb hby d2_139)
            have V100' : own_By Z h100 r1 14 (B2_139 p0 p2 B1 HX) := V100
            have Kp100 : Keep h0 h100 [r1] := Kp94.wr W100 (Or.inl (List.mem_of_getElem? (i := 0) rfl))
            have N100 := Fr.snoc X100 N94 g_r1
            have k101 : own_Go p e below (s₁.setTop (entryFrame m #[(.int p0), (.ref r1), (.int p2)] 3)) (T100.setTop (mkF m 140 #[.val (.int p0), .val (.ref r1), .val (.int p2)] [])) := fun t k => k99 t (st100 t k)
            have k102 : own_Go p e below (s₁.setTop (entryFrame m #[(.int p0), (.ref r1), (.int p2)] 3)) (T100.setTop (mkF m 144 #[.val (.int p0), .val (.ref r1), .val (.int p2)] [(.int (p2 + (6 : Int32)))])) := by
              intro t k
              refine k101 t ?_
              show Steps p.tables e below (T100.setTop (mkF m 140 #[.val (.int p0), .val (.ref r1), .val (.int p2)] [])) t
              refine XS.iloadN X100.here hx rfl (hb hby d2_140) rfl ?_
              show Steps p.tables e below (T100.setTop (mkF m 141 #[.val (.int p0), .val (.ref r1), .val (.int p2)] [(.int p2)])) t
              refine XS.bipush X100.here hx rfl (hb hby d2_141) ?_
              show Steps p.tables e below (T100.setTop (mkF m 143 #[.val (.int p0), .val (.ref r1), .val (.int p2)] [(.int (6 : Int32)), (.int p2)])) t
              refine XS.iadd X100.here hx rfl (hb hby d2_143) rfl ?_
              exact k
            obtain ⟨fs, hr, hrun, hended, hW, hsame⟩ := X100.leave (v := some (.int (p2 + (6 : Int32)))) (fun h => by rw [Bd.returns] at h; cases h)
            refine ⟨_, _, k102 _ ?_, hrun, hended, _, _, rfl, ?_, ⟨_, rfl⟩, hW, hsame.mono (by decide) (by decide)⟩
            · exact retI X100 hx Bd.returns (hb hby d2_144) hr
            · show Q2 Z p0 r1 p2 B1 HX wH h0 n0 _ T100.heap _
              rw [e100]
              exact ⟨congrArg (fun z => some (Value.int z)) (show f2 p0 p2 B1 HX = (p2 + (6 : Int32)) from (by unfold f2; rw [if_neg hc3_2, if_neg hc9_11, if_neg hc31_20, if_pos hc37_62, if_neg hc52_64])).symm, N100, Kp100, (by rw [show G2 p0 p2 B1 HX = (B2_139 p0 p2 B1 HX) from (by unfold G2; rw [if_neg hc3_2, if_neg hc9_11, if_neg hc31_20, if_pos hc37_62, if_neg hc52_64])]; exact V100')⟩
        · have k103 : own_Go p e below (s₁.setTop (entryFrame m #[(.int p0), (.ref r1), (.int p2)] 3)) (s₁.setTop (mkF m 44 #[.val (.int p0), .val (.ref r1), .val (.int p2)] [(.int (p0.toInt8.toInt32)), (.int p2), (.ref r1)])) := by
            intro t k
            refine k61 t ?_
            show Steps p.tables e below (s₁.setTop (mkF m 37 #[.val (.int p0), .val (.ref r1), .val (.int p2)] [(.int (126 : Int32)), (.int p0)])) t
            refine XS.icmpNo X0.here hx rfl (hb hby d2_37) rfl (flt hc37_62).2.2.1 ?_
            show Steps p.tables e below (s₁.setTop (mkF m 40 #[.val (.int p0), .val (.ref r1), .val (.int p2)] [])) t
            refine XS.aloadN X0.here hx rfl (hb hby d2_40) rfl rfl ?_
            show Steps p.tables e below (s₁.setTop (mkF m 41 #[.val (.int p0), .val (.ref r1), .val (.int p2)] [(.ref r1)])) t
            refine XS.iloadN X0.here hx rfl (hb hby d2_41) rfl ?_
            show Steps p.tables e below (s₁.setTop (mkF m 42 #[.val (.int p0), .val (.ref r1), .val (.int p2)] [(.int p2), (.ref r1)])) t
            refine XS.iloadN X0.here hx rfl (hb hby d2_42) rfl ?_
            show Steps p.tables e below (s₁.setTop (mkF m 43 #[.val (.int p0), .val (.ref r1), .val (.int p2)] [(.int p0), (.int p2), (.ref r1)])) t
            refine XS.i2b X0.here hx rfl (hb hby d2_43) rfl ?_
            exact k
          obtain ⟨T104, h104, X104, e104, W104, V104, st104⟩ := own_bst X0 hx hZ e0 V_r1 (j := p2) (own_i0 hp).1 (own_i0 hp).2 (g := (mkF m 44 #[.val (.int p0), .val (.ref r1), .val (.int p2)] [(.int (p0.toInt8.toInt32)), (.int p2), (.ref r1)])) rfl rfl (hb hby d2_44)
          have V104' : own_By Z h104 r1 14 (B2_44 p0 p2 B1) := V104
          have Kp104 : Keep h0 h104 [r1] := K0.wr W104 (Or.inl (List.mem_of_getElem? (i := 0) rfl))
          have N104 := Fr.snoc X104 N0 g_r1
          have k105 : own_Go p e below (s₁.setTop (entryFrame m #[(.int p0), (.ref r1), (.int p2)] 3)) (T104.setTop (mkF m 45 #[.val (.int p0), .val (.ref r1), .val (.int p2)] [])) := fun t k => k103 t (st104 t k)
          have k106 : own_Go p e below (s₁.setTop (entryFrame m #[(.int p0), (.ref r1), (.int p2)] 3)) (T104.setTop (mkF m 48 #[.val (.int p0), .val (.ref r1), .val (.int p2)] [(.int (p2 + (1 : Int32)))])) := by
            intro t k
            refine k105 t ?_
            show Steps p.tables e below (T104.setTop (mkF m 45 #[.val (.int p0), .val (.ref r1), .val (.int p2)] [])) t
            refine XS.iloadN X104.here hx rfl (hb hby d2_45) rfl ?_
            show Steps p.tables e below (T104.setTop (mkF m 46 #[.val (.int p0), .val (.ref r1), .val (.int p2)] [(.int p2)])) t
            refine XS.iconst X104.here hx rfl (hb hby d2_46) ?_
            show Steps p.tables e below (T104.setTop (mkF m 47 #[.val (.int p0), .val (.ref r1), .val (.int p2)] [(.int (1 : Int32)), (.int p2)])) t
            refine XS.iadd X104.here hx rfl (hb hby d2_47) rfl ?_
            exact k
          obtain ⟨fs, hr, hrun, hended, hW, hsame⟩ := X104.leave (v := some (.int (p2 + (1 : Int32)))) (fun h => by rw [Bd.returns] at h; cases h)
          refine ⟨_, _, k106 _ ?_, hrun, hended, _, _, rfl, ?_, ⟨_, rfl⟩, hW, hsame.mono (by decide) (by decide)⟩
          · exact retI X104 hx Bd.returns (hb hby d2_48) hr
          · show Q2 Z p0 r1 p2 B1 HX wH h0 n0 _ T104.heap _
            rw [e104]
            exact ⟨congrArg (fun z => some (Value.int z)) (show f2 p0 p2 B1 HX = (p2 + (1 : Int32)) from (by unfold f2; rw [if_neg hc3_2, if_neg hc9_11, if_neg hc31_20, if_neg hc37_62])).symm, N104, Kp104, (by rw [show G2 p0 p2 B1 HX = (B2_44 p0 p2 B1) from (by unfold G2; rw [if_neg hc3_2, if_neg hc9_11, if_neg hc31_20, if_neg hc37_62])]; exact V104')⟩
theorem d3_0 : decode method_4_code 0 = .ok (.iload_n 1, 1) := by decide +kernel
theorem d3_1 : decode method_4_code 1 = .ok (.iload_n 2, 1) := by decide +kernel
theorem d3_2 : decode method_4_code 2 = .ok (.isub, 1) := by decide +kernel
theorem d3_3 : decode method_4_code 3 = .ok (.istore 6, 2) := by decide +kernel
theorem d3_5 : decode method_4_code 5 = .ok (.iload 6, 2) := by decide +kernel
theorem d3_7 : decode method_4_code 7 = .ok (.ifCond .lt 17, 3) := by decide +kernel
theorem d3_10 : decode method_4_code 10 = .ok (.iload 6, 2) := by decide +kernel
theorem d3_12 : decode method_4_code 12 = .ok (.iload_n 3, 1) := by decide +kernel
theorem d3_13 : decode method_4_code 13 = .ok (.if_icmp .ge 11, 3) := by decide +kernel
theorem d3_16 : decode method_4_code 16 = .ok (.aload 4, 2) := by decide +kernel
theorem d3_18 : decode method_4_code 18 = .ok (.iload 6, 2) := by decide +kernel
theorem d3_20 : decode method_4_code 20 = .ok (.baload, 1) := by decide +kernel
theorem d3_21 : decode method_4_code 21 = .ok (.goto 5, 3) := by decide +kernel
theorem d3_24 : decode method_4_code 24 = .ok (.iload 5, 2) := by decide +kernel
theorem d3_26 : decode method_4_code 26 = .ok (.istore 7, 2) := by decide +kernel
theorem d3_28 : decode method_4_code 28 = .ok (.aload_n 0, 1) := by decide +kernel
theorem d3_29 : decode method_4_code 29 = .ok (.iload_n 1, 1) := by decide +kernel
theorem d3_30 : decode method_4_code 30 = .ok (.baload, 1) := by decide +kernel
theorem d3_31 : decode method_4_code 31 = .ok (.iload 7, 2) := by decide +kernel
theorem d3_33 : decode method_4_code 33 = .ok (.if_icmp .ne 7, 3) := by decide +kernel
theorem d3_36 : decode method_4_code 36 = .ok (.iconst 1, 1) := by decide +kernel
theorem d3_37 : decode method_4_code 37 = .ok (.goto 4, 3) := by decide +kernel
theorem d3_40 : decode method_4_code 40 = .ok (.iconst 0, 1) := by decide +kernel
theorem d3_41 : decode method_4_code 41 = .ok (.ireturn, 1) := by decide +kernel
theorem ef_3 (m : MethodId) (r0 : Addr) (p1 : Int32) (p2 : Int32) (p3 : Int32) (r4 : Addr) (p5 : Int32) : entryFrame m #[(.ref r0), (.int p1), (.int p2), (.int p3), (.ref r4), (.int p5)] 8 = mkF m 0 #[.val (.ref r0), .val (.int p1), .val (.int p2), .val (.int p3), .val (.ref r4), .val (.int p5), .unset, .unset] [] := by first | (simp [entryFrame, mkF, argsToLocals, Value.category]; done) | rfl
def v3_26 (p1 : Int32) (p2 : Int32) (E4 : Nat → Int32) : Int32 := (E4 ((p1 - p2)).toNatClampNeg)
def f3 (p1 : Int32) (p2 : Int32) (p3 : Int32) (p5 : Int32) (B0 : Nat → Int32) (E4 : Nat → Int32) : Int32 := (if (p1 - p2) < (0 : Int32) then (if (B0 (p1).toNatClampNeg) = p5 then (1 : Int32) else (0 : Int32)) else (if (p1 - p2) < p3 then (if (B0 (p1).toNatClampNeg) = (v3_26 p1 p2 E4) then (1 : Int32) else (0 : Int32)) else (if (B0 (p1).toNatClampNeg) = p5 then (1 : Int32) else (0 : Int32))))
def Q3 (Z : State) (r0 : Addr) (p1 : Int32) (p2 : Int32) (p3 : Int32) (r4 : Addr) (p5 : Int32) (B0 : Nat → Int32) (E4 : Nat → Int32) (h0 : Heap) (n0 : Nat) (v : Option Value) (h : Heap) (L : List Loc) : Prop := v = some (.int (f3 p1 p2 p3 p5 B0 E4)) ∧ Fr n0 L ∧ h = h0
set_option maxRecDepth 65536 in
set_option maxHeartbeats 40000000 in
theorem rm3 (l : Launch) (Z : State) (a0 : Array Value) (hw : ∀ d ∈ tables_1, d.before a0 Z = true) (ws : List Jvm.Cond) (r0 : Addr) (p1 : Int32) (p2 : Int32) (p3 : Int32) (r4 : Addr) (p5 : Int32) (B0 : Nat → Int32) (E4 : Nat → Int32) (h0 : Heap) (n0 : Nat) (Z0 : n0 ≤ h0.size) (V_r0 : own_By Z h0 r0 14 B0) (V_r4 : own_By Z h0 r4 6 E4) (hi : ¬ p1 < 0 ∧ p1.toNatClampNeg < 14) (hk : ¬ ((p1 - p2) < (0 : Int32)) → (p1 - p2) < p3 → ¬ (p1 - p2) < 0 ∧ (p1 - p2).toNatClampNeg < 6) :
    MetFree l (⟨"com/example/segmentry/segmentry/io/JsonTextEscapePinLaw", "ok", "([BIII[BB)Z"⟩ : MethodName) (head1 (Jvm.Cond.code (⟨"com/example/segmentry/segmentry/io/JsonTextEscapePinLaw", "ok", "([BIII[BB)Z"⟩ : MethodName) method_4_code 8 (some .boolean) :: ws) ({ frames := 0, cells := 0, slots := 0, locals := 0 } : Room)) (fun a U => a = #[(.ref r0), (.int p1), (.int p2), (.int p3), (.ref r4), (.int p5)] ∧ Z.Warmed39 U.vm ∧ U.heap = h0) (fun _ _ _ _ _ => True) (fun _ U o U' => ∃ v L, o = .returned v ∧ Q3 Z r0 p1 p2 p3 r4 p5 B0 E4 h0 n0 v U'.heap L ∧ FrameEnd U o U' L ({ frames := 0, cells := 0, slots := 0, locals := 0 } : Room).cells ({ frames := 0, cells := 0, slots := 0, locals := 0 } : Room).slots) := by
  refine MetFree.of_bodySF (plainFor_of_name pn_0) hisR ?_
  intro p e s m args below meth c s₁ Bd hml0 hP hK
  obtain ⟨rfl, hZ, hh⟩ := hP
  have hx := Bd.exec
  have hby := Bd.bytes
  have hml : c.maxLocals = 8 := hml0
  have hown : s.vm.findClass "com/example/segmentry/segmentry/io/JsonTextEscapePinLaw" = some m.cls := findClass_of_methodNamed Bd.named
  have hnm := (name_of_methodNamed Bd.named Bd.method).1
  have X0 : Stand p l e ({ frames := 0, cells := 0, slots := 0, locals := 0 } : Room) s m #[(.ref r0), (.int p1), (.int p2), (.int p3), (.ref r4), (.int p5)] below meth c s₁ [] 0 0 := Stand.of_body Bd
  have e0 : s₁.heap = h0 := by rw [← hh, Bd.state]; rfl
  have N0 := Fr.nil n0
  have pre0 : own_Go p e below (s₁.setTop (entryFrame m #[(.ref r0), (.int p1), (.int p2), (.int p3), (.ref r4), (.int p5)] 8)) (s₁.setTop (mkF m 0 #[.val (.ref r0), .val (.int p1), .val (.int p2), .val (.int p3), .val (.ref r4), .val (.int p5), .unset, .unset] [])) := fun t k => castTop (ef_3 m r0 p1 p2 p3 r4 p5) k
  have k1 : own_Go p e below (s₁.setTop (entryFrame m #[(.ref r0), (.int p1), (.int p2), (.int p3), (.ref r4), (.int p5)] 8)) (s₁.setTop (mkF m 7 #[.val (.ref r0), .val (.int p1), .val (.int p2), .val (.int p3), .val (.ref r4), .val (.int p5), .val (.int (p1 - p2)), .unset] [(.int (p1 - p2))])) := by
    intro t k
    refine pre0 t ?_
    show Steps p.tables e below (s₁.setTop (mkF m 0 #[.val (.ref r0), .val (.int p1), .val (.int p2), .val (.int p3), .val (.ref r4), .val (.int p5), .unset, .unset] [])) t
    refine XS.iloadN X0.here hx rfl (hb hby d3_0) rfl ?_
    show Steps p.tables e below (s₁.setTop (mkF m 1 #[.val (.ref r0), .val (.int p1), .val (.int p2), .val (.int p3), .val (.ref r4), .val (.int p5), .unset, .unset] [(.int p1)])) t
    refine XS.iloadN X0.here hx rfl (hb hby d3_1) rfl ?_
    show Steps p.tables e below (s₁.setTop (mkF m 2 #[.val (.ref r0), .val (.int p1), .val (.int p2), .val (.int p3), .val (.ref r4), .val (.int p5), .unset, .unset] [(.int p2), (.int p1)])) t
    refine XS.isub X0.here hx rfl (hb hby d3_2) rfl ?_
    show Steps p.tables e below (s₁.setTop (mkF m 3 #[.val (.ref r0), .val (.int p1), .val (.int p2), .val (.int p3), .val (.ref r4), .val (.int p5), .unset, .unset] [(.int (p1 - p2))])) t
    refine XS.istore X0.here hx rfl (hb hby d3_3) rfl (l' := #[.val (.ref r0), .val (.int p1), .val (.int p2), .val (.int p3), .val (.ref r4), .val (.int p5), .val (.int (p1 - p2)), .unset]) rfl ?_
    show Steps p.tables e below (s₁.setTop (mkF m 5 #[.val (.ref r0), .val (.int p1), .val (.int p2), .val (.int p3), .val (.ref r4), .val (.int p5), .val (.int (p1 - p2)), .unset] [])) t
    refine XS.iload X0.here hx rfl (hb hby d3_5) rfl ?_
    exact k
  by_cases hc7_2 : (p1 - p2) < (0 : Int32)
  · have k3 : own_Go p e below (s₁.setTop (entryFrame m #[(.ref r0), (.int p1), (.int p2), (.int p3), (.ref r4), (.int p5)] 8)) (s₁.setTop (mkF m 33 #[.val (.ref r0), .val (.int p1), .val (.int p2), .val (.int p3), .val (.ref r4), .val (.int p5), .val (.int (p1 - p2)), .val (.int p5)] [(.int p5), (.int (B0 (p1).toNatClampNeg))])) := by
      intro t k
      refine k1 t ?_
      show Steps p.tables e below (s₁.setTop (mkF m 7 #[.val (.ref r0), .val (.int p1), .val (.int p2), .val (.int p3), .val (.ref r4), .val (.int p5), .val (.int (p1 - p2)), .unset] [(.int (p1 - p2))])) t
      refine XS.ifYes X0.here hx rfl (pc0 := 7) (pc' := 24) rfl (hb hby d3_7) rfl ((if0 _ _).trans (tlt hc7_2).1) (by decide) (by decide) ?_
      show Steps p.tables e below (s₁.setTop (mkF m 24 #[.val (.ref r0), .val (.int p1), .val (.int p2), .val (.int p3), .val (.ref r4), .val (.int p5), .val (.int (p1 - p2)), .unset] [])) t
      refine XS.iload X0.here hx rfl (hb hby d3_24) rfl ?_
      show Steps p.tables e below (s₁.setTop (mkF m 26 #[.val (.ref r0), .val (.int p1), .val (.int p2), .val (.int p3), .val (.ref r4), .val (.int p5), .val (.int (p1 - p2)), .unset] [(.int p5)])) t
      refine XS.istore X0.here hx rfl (hb hby d3_26) rfl (l' := #[.val (.ref r0), .val (.int p1), .val (.int p2), .val (.int p3), .val (.ref r4), .val (.int p5), .val (.int (p1 - p2)), .val (.int p5)]) rfl ?_
      show Steps p.tables e below (s₁.setTop (mkF m 28 #[.val (.ref r0), .val (.int p1), .val (.int p2), .val (.int p3), .val (.ref r4), .val (.int p5), .val (.int (p1 - p2)), .val (.int p5)] [])) t
      refine XS.aloadN X0.here hx rfl (hb hby d3_28) rfl rfl ?_
      show Steps p.tables e below (s₁.setTop (mkF m 29 #[.val (.ref r0), .val (.int p1), .val (.int p2), .val (.int p3), .val (.ref r4), .val (.int p5), .val (.int (p1 - p2)), .val (.int p5)] [(.ref r0)])) t
      refine XS.iloadN X0.here hx rfl (hb hby d3_29) rfl ?_
      show Steps p.tables e below (s₁.setTop (mkF m 30 #[.val (.ref r0), .val (.int p1), .val (.int p2), .val (.int p3), .val (.ref r4), .val (.int p5), .val (.int (p1 - p2)), .val (.int p5)] [(.int p1), (.ref r0)])) t
      refine own_bld X0 hx hZ e0 V_r0 (j := p1) hi.1 hi.2 (g := (mkF m 30 #[.val (.ref r0), .val (.int p1), .val (.int p2), .val (.int p3), .val (.ref r4), .val (.int p5), .val (.int (p1 - p2)), .val (.int p5)] [(.int p1), (.ref r0)])) rfl rfl (hb hby d3_30) _ ?_
      show Steps p.tables e below (s₁.setTop (mkF m 31 #[.val (.ref r0), .val (.int p1), .val (.int p2), .val (.int p3), .val (.ref r4), .val (.int p5), .val (.int (p1 - p2)), .val (.int p5)] [(.int (B0 (p1).toNatClampNeg))])) t
      refine XS.iload X0.here hx rfl (hb hby d3_31) rfl ?_
      exact k
    by_cases hc33_4 : (B0 (p1).toNatClampNeg) = p5
    · have k5 : own_Go p e below (s₁.setTop (entryFrame m #[(.ref r0), (.int p1), (.int p2), (.int p3), (.ref r4), (.int p5)] 8)) (s₁.setTop (mkF m 41 #[.val (.ref r0), .val (.int p1), .val (.int p2), .val (.int p3), .val (.ref r4), .val (.int p5), .val (.int (p1 - p2)), .val (.int p5)] [(.int (1 : Int32))])) := by
        intro t k
        refine k3 t ?_
        show Steps p.tables e below (s₁.setTop (mkF m 33 #[.val (.ref r0), .val (.int p1), .val (.int p2), .val (.int p3), .val (.ref r4), .val (.int p5), .val (.int (p1 - p2)), .val (.int p5)] [(.int p5), (.int (B0 (p1).toNatClampNeg))])) t
        refine XS.icmpNo X0.here hx rfl (hb hby d3_33) rfl (teq hc33_4).2 ?_
        show Steps p.tables e below (s₁.setTop (mkF m 36 #[.val (.ref r0), .val (.int p1), .val (.int p2), .val (.int p3), .val (.ref r4), .val (.int p5), .val (.int (p1 - p2)), .val (.int p5)] [])) t
        refine XS.iconst X0.here hx rfl (hb hby d3_36) ?_
        show Steps p.tables e below (s₁.setTop (mkF m 37 #[.val (.ref r0), .val (.int p1), .val (.int p2), .val (.int p3), .val (.ref r4), .val (.int p5), .val (.int (p1 - p2)), .val (.int p5)] [(.int (1 : Int32))])) t
        refine XS.goto X0.here hx rfl (pc0 := 37) (pc' := 41) rfl (hb hby d3_37) (by decide) (by decide) ?_
        exact k
      obtain ⟨fs, hr, hrun, hended, hW, hsame⟩ := X0.leave (v := some (.int (1 : Int32))) (fun h => by rw [Bd.returns] at h; cases h)
      refine ⟨_, _, k5 _ ?_, hrun, hended, _, _, rfl, ?_, ⟨_, rfl⟩, hW, hsame.mono (by decide) (by decide)⟩
      · exact retN X0 hx (t := .boolean) Bd.returns (by simp) (hb hby d3_41) hr
      · show Q3 Z r0 p1 p2 p3 r4 p5 B0 E4 h0 n0 _ s₁.heap _
        rw [e0]
        exact ⟨congrArg (fun z => some (Value.int z)) (show f3 p1 p2 p3 p5 B0 E4 = (1 : Int32) from (by unfold f3; rw [if_pos hc7_2, if_pos hc33_4])).symm, N0, rfl⟩
    · have k6 : own_Go p e below (s₁.setTop (entryFrame m #[(.ref r0), (.int p1), (.int p2), (.int p3), (.ref r4), (.int p5)] 8)) (s₁.setTop (mkF m 41 #[.val (.ref r0), .val (.int p1), .val (.int p2), .val (.int p3), .val (.ref r4), .val (.int p5), .val (.int (p1 - p2)), .val (.int p5)] [(.int (0 : Int32))])) := by
        intro t k
        refine k3 t ?_
        show Steps p.tables e below (s₁.setTop (mkF m 33 #[.val (.ref r0), .val (.int p1), .val (.int p2), .val (.int p3), .val (.ref r4), .val (.int p5), .val (.int (p1 - p2)), .val (.int p5)] [(.int p5), (.int (B0 (p1).toNatClampNeg))])) t
        refine XS.icmpYes X0.here hx rfl (pc0 := 33) (pc' := 40) rfl (hb hby d3_33) rfl (feq hc33_4).2 (by decide) (by decide) ?_
        show Steps p.tables e below (s₁.setTop (mkF m 40 #[.val (.ref r0), .val (.int p1), .val (.int p2), .val (.int p3), .val (.ref r4), .val (.int p5), .val (.int (p1 - p2)), .val (.int p5)] [])) t
        refine XS.iconst X0.here hx rfl (hb hby d3_40) ?_
        exact k
      obtain ⟨fs, hr, hrun, hended, hW, hsame⟩ := X0.leave (v := some (.int (0 : Int32))) (fun h => by rw [Bd.returns] at h; cases h)
      refine ⟨_, _, k6 _ ?_, hrun, hended, _, _, rfl, ?_, ⟨_, rfl⟩, hW, hsame.mono (by decide) (by decide)⟩
      · exact retN X0 hx (t := .boolean) Bd.returns (by simp) (hb hby d3_41) hr
      · show Q3 Z r0 p1 p2 p3 r4 p5 B0 E4 h0 n0 _ s₁.heap _
        rw [e0]
        exact ⟨congrArg (fun z => some (Value.int z)) (show f3 p1 p2 p3 p5 B0 E4 = (0 : Int32) from (by unfold f3; rw [if_pos hc7_2, if_neg hc33_4])).symm, N0, rfl⟩
  · have k7 : own_Go p e below (s₁.setTop (entryFrame m #[(.ref r0), (.int p1), (.int p2), (.int p3), (.ref r4), (.int p5)] 8)) (s₁.setTop (mkF m 13 #[.val (.ref r0), .val (.int p1), .val (.int p2), .val (.int p3), .val (.ref r4), .val (.int p5), .val (.int (p1 - p2)), .unset] [(.int p3), (.int (p1 - p2))])) := by
      intro t k
      refine k1 t ?_
      show Steps p.tables e below (s₁.setTop (mkF m 7 #[.val (.ref r0), .val (.int p1), .val (.int p2), .val (.int p3), .val (.ref r4), .val (.int p5), .val (.int (p1 - p2)), .unset] [(.int (p1 - p2))])) t
      refine XS.ifNo X0.here hx rfl (hb hby d3_7) rfl ((if0 _ _).trans (flt hc7_2).1) ?_
      show Steps p.tables e below (s₁.setTop (mkF m 10 #[.val (.ref r0), .val (.int p1), .val (.int p2), .val (.int p3), .val (.ref r4), .val (.int p5), .val (.int (p1 - p2)), .unset] [])) t
      refine XS.iload X0.here hx rfl (hb hby d3_10) rfl ?_
      show Steps p.tables e below (s₁.setTop (mkF m 12 #[.val (.ref r0), .val (.int p1), .val (.int p2), .val (.int p3), .val (.ref r4), .val (.int p5), .val (.int (p1 - p2)), .unset] [(.int (p1 - p2))])) t
      refine XS.iloadN X0.here hx rfl (hb hby d3_12) rfl ?_
      exact k
    by_cases hc13_8 : (p1 - p2) < p3
    · have k9 : own_Go p e below (s₁.setTop (entryFrame m #[(.ref r0), (.int p1), (.int p2), (.int p3), (.ref r4), (.int p5)] 8)) (s₁.setTop (mkF m 33 #[.val (.ref r0), .val (.int p1), .val (.int p2), .val (.int p3), .val (.ref r4), .val (.int p5), .val (.int (p1 - p2)), .val (.int (v3_26 p1 p2 E4))] [(.int (v3_26 p1 p2 E4)), (.int (B0 (p1).toNatClampNeg))])) := by
        intro t k
        refine k7 t ?_
        show Steps p.tables e below (s₁.setTop (mkF m 13 #[.val (.ref r0), .val (.int p1), .val (.int p2), .val (.int p3), .val (.ref r4), .val (.int p5), .val (.int (p1 - p2)), .unset] [(.int p3), (.int (p1 - p2))])) t
        refine XS.icmpNo X0.here hx rfl (hb hby d3_13) rfl (tlt hc13_8).2.1 ?_
        show Steps p.tables e below (s₁.setTop (mkF m 16 #[.val (.ref r0), .val (.int p1), .val (.int p2), .val (.int p3), .val (.ref r4), .val (.int p5), .val (.int (p1 - p2)), .unset] [])) t
        refine XS.aload X0.here hx rfl (hb hby d3_16) rfl rfl ?_
        show Steps p.tables e below (s₁.setTop (mkF m 18 #[.val (.ref r0), .val (.int p1), .val (.int p2), .val (.int p3), .val (.ref r4), .val (.int p5), .val (.int (p1 - p2)), .unset] [(.ref r4)])) t
        refine XS.iload X0.here hx rfl (hb hby d3_18) rfl ?_
        show Steps p.tables e below (s₁.setTop (mkF m 20 #[.val (.ref r0), .val (.int p1), .val (.int p2), .val (.int p3), .val (.ref r4), .val (.int p5), .val (.int (p1 - p2)), .unset] [(.int (p1 - p2)), (.ref r4)])) t
        refine own_bld X0 hx hZ e0 V_r4 (j := (p1 - p2)) (hk hc7_2 hc13_8).1 (hk hc7_2 hc13_8).2 (g := (mkF m 20 #[.val (.ref r0), .val (.int p1), .val (.int p2), .val (.int p3), .val (.ref r4), .val (.int p5), .val (.int (p1 - p2)), .unset] [(.int (p1 - p2)), (.ref r4)])) rfl rfl (hb hby d3_20) _ ?_
        show Steps p.tables e below (s₁.setTop (mkF m 21 #[.val (.ref r0), .val (.int p1), .val (.int p2), .val (.int p3), .val (.ref r4), .val (.int p5), .val (.int (p1 - p2)), .unset] [(.int (E4 ((p1 - p2)).toNatClampNeg))])) t
        refine XS.goto X0.here hx rfl (pc0 := 21) (pc' := 26) rfl (hb hby d3_21) (by decide) (by decide) ?_
        show Steps p.tables e below (s₁.setTop (mkF m 26 #[.val (.ref r0), .val (.int p1), .val (.int p2), .val (.int p3), .val (.ref r4), .val (.int p5), .val (.int (p1 - p2)), .unset] [(.int (E4 ((p1 - p2)).toNatClampNeg))])) t
        refine XS.istore X0.here hx rfl (hb hby d3_26) rfl (l' := #[.val (.ref r0), .val (.int p1), .val (.int p2), .val (.int p3), .val (.ref r4), .val (.int p5), .val (.int (p1 - p2)), .val (.int (v3_26 p1 p2 E4))]) rfl ?_
        show Steps p.tables e below (s₁.setTop (mkF m 28 #[.val (.ref r0), .val (.int p1), .val (.int p2), .val (.int p3), .val (.ref r4), .val (.int p5), .val (.int (p1 - p2)), .val (.int (v3_26 p1 p2 E4))] [])) t
        refine XS.aloadN X0.here hx rfl (hb hby d3_28) rfl rfl ?_
        show Steps p.tables e below (s₁.setTop (mkF m 29 #[.val (.ref r0), .val (.int p1), .val (.int p2), .val (.int p3), .val (.ref r4), .val (.int p5), .val (.int (p1 - p2)), .val (.int (v3_26 p1 p2 E4))] [(.ref r0)])) t
        refine XS.iloadN X0.here hx rfl (hb hby d3_29) rfl ?_
        show Steps p.tables e below (s₁.setTop (mkF m 30 #[.val (.ref r0), .val (.int p1), .val (.int p2), .val (.int p3), .val (.ref r4), .val (.int p5), .val (.int (p1 - p2)), .val (.int (v3_26 p1 p2 E4))] [(.int p1), (.ref r0)])) t
        refine own_bld X0 hx hZ e0 V_r0 (j := p1) hi.1 hi.2 (g := (mkF m 30 #[.val (.ref r0), .val (.int p1), .val (.int p2), .val (.int p3), .val (.ref r4), .val (.int p5), .val (.int (p1 - p2)), .val (.int (v3_26 p1 p2 E4))] [(.int p1), (.ref r0)])) rfl rfl (hb hby d3_30) _ ?_
        show Steps p.tables e below (s₁.setTop (mkF m 31 #[.val (.ref r0), .val (.int p1), .val (.int p2), .val (.int p3), .val (.ref r4), .val (.int p5), .val (.int (p1 - p2)), .val (.int (v3_26 p1 p2 E4))] [(.int (B0 (p1).toNatClampNeg))])) t
        refine XS.iload X0.here hx rfl (hb hby d3_31) rfl ?_
        exact k
      by_cases hc33_10 : (B0 (p1).toNatClampNeg) = (v3_26 p1 p2 E4)
      · have k11 : own_Go p e below (s₁.setTop (entryFrame m #[(.ref r0), (.int p1), (.int p2), (.int p3), (.ref r4), (.int p5)] 8)) (s₁.setTop (mkF m 41 #[.val (.ref r0), .val (.int p1), .val (.int p2), .val (.int p3), .val (.ref r4), .val (.int p5), .val (.int (p1 - p2)), .val (.int (v3_26 p1 p2 E4))] [(.int (1 : Int32))])) := by
          intro t k
          refine k9 t ?_
          show Steps p.tables e below (s₁.setTop (mkF m 33 #[.val (.ref r0), .val (.int p1), .val (.int p2), .val (.int p3), .val (.ref r4), .val (.int p5), .val (.int (p1 - p2)), .val (.int (v3_26 p1 p2 E4))] [(.int (v3_26 p1 p2 E4)), (.int (B0 (p1).toNatClampNeg))])) t
          refine XS.icmpNo X0.here hx rfl (hb hby d3_33) rfl (teq hc33_10).2 ?_
          show Steps p.tables e below (s₁.setTop (mkF m 36 #[.val (.ref r0), .val (.int p1), .val (.int p2), .val (.int p3), .val (.ref r4), .val (.int p5), .val (.int (p1 - p2)), .val (.int (v3_26 p1 p2 E4))] [])) t
          refine XS.iconst X0.here hx rfl (hb hby d3_36) ?_
          show Steps p.tables e below (s₁.setTop (mkF m 37 #[.val (.ref r0), .val (.int p1), .val (.int p2), .val (.int p3), .val (.ref r4), .val (.int p5), .val (.int (p1 - p2)), .val (.int (v3_26 p1 p2 E4))] [(.int (1 : Int32))])) t
          refine XS.goto X0.here hx rfl (pc0 := 37) (pc' := 41) rfl (hb hby d3_37) (by decide) (by decide) ?_
          exact k
        obtain ⟨fs, hr, hrun, hended, hW, hsame⟩ := X0.leave (v := some (.int (1 : Int32))) (fun h => by rw [Bd.returns] at h; cases h)
        refine ⟨_, _, k11 _ ?_, hrun, hended, _, _, rfl, ?_, ⟨_, rfl⟩, hW, hsame.mono (by decide) (by decide)⟩
        · exact retN X0 hx (t := .boolean) Bd.returns (by simp) (hb hby d3_41) hr
        · show Q3 Z r0 p1 p2 p3 r4 p5 B0 E4 h0 n0 _ s₁.heap _
          rw [e0]
          exact ⟨congrArg (fun z => some (Value.int z)) (show f3 p1 p2 p3 p5 B0 E4 = (1 : Int32) from (by unfold f3; rw [if_neg hc7_2, if_pos hc13_8, if_pos hc33_10])).symm, N0, rfl⟩
      · have k12 : own_Go p e below (s₁.setTop (entryFrame m #[(.ref r0), (.int p1), (.int p2), (.int p3), (.ref r4), (.int p5)] 8)) (s₁.setTop (mkF m 41 #[.val (.ref r0), .val (.int p1), .val (.int p2), .val (.int p3), .val (.ref r4), .val (.int p5), .val (.int (p1 - p2)), .val (.int (v3_26 p1 p2 E4))] [(.int (0 : Int32))])) := by
          intro t k
          refine k9 t ?_
          show Steps p.tables e below (s₁.setTop (mkF m 33 #[.val (.ref r0), .val (.int p1), .val (.int p2), .val (.int p3), .val (.ref r4), .val (.int p5), .val (.int (p1 - p2)), .val (.int (v3_26 p1 p2 E4))] [(.int (v3_26 p1 p2 E4)), (.int (B0 (p1).toNatClampNeg))])) t
          refine XS.icmpYes X0.here hx rfl (pc0 := 33) (pc' := 40) rfl (hb hby d3_33) rfl (feq hc33_10).2 (by decide) (by decide) ?_
          show Steps p.tables e below (s₁.setTop (mkF m 40 #[.val (.ref r0), .val (.int p1), .val (.int p2), .val (.int p3), .val (.ref r4), .val (.int p5), .val (.int (p1 - p2)), .val (.int (v3_26 p1 p2 E4))] [])) t
          refine XS.iconst X0.here hx rfl (hb hby d3_40) ?_
          exact k
        obtain ⟨fs, hr, hrun, hended, hW, hsame⟩ := X0.leave (v := some (.int (0 : Int32))) (fun h => by rw [Bd.returns] at h; cases h)
        refine ⟨_, _, k12 _ ?_, hrun, hended, _, _, rfl, ?_, ⟨_, rfl⟩, hW, hsame.mono (by decide) (by decide)⟩
        · exact retN X0 hx (t := .boolean) Bd.returns (by simp) (hb hby d3_41) hr
        · show Q3 Z r0 p1 p2 p3 r4 p5 B0 E4 h0 n0 _ s₁.heap _
          rw [e0]
          exact ⟨congrArg (fun z => some (Value.int z)) (show f3 p1 p2 p3 p5 B0 E4 = (0 : Int32) from (by unfold f3; rw [if_neg hc7_2, if_pos hc13_8, if_neg hc33_10])).symm, N0, rfl⟩
    · have k13 : own_Go p e below (s₁.setTop (entryFrame m #[(.ref r0), (.int p1), (.int p2), (.int p3), (.ref r4), (.int p5)] 8)) (s₁.setTop (mkF m 33 #[.val (.ref r0), .val (.int p1), .val (.int p2), .val (.int p3), .val (.ref r4), .val (.int p5), .val (.int (p1 - p2)), .val (.int p5)] [(.int p5), (.int (B0 (p1).toNatClampNeg))])) := by
        intro t k
        refine k7 t ?_
        show Steps p.tables e below (s₁.setTop (mkF m 13 #[.val (.ref r0), .val (.int p1), .val (.int p2), .val (.int p3), .val (.ref r4), .val (.int p5), .val (.int (p1 - p2)), .unset] [(.int p3), (.int (p1 - p2))])) t
        refine XS.icmpYes X0.here hx rfl (pc0 := 13) (pc' := 24) rfl (hb hby d3_13) rfl (flt hc13_8).2.1 (by decide) (by decide) ?_
        show Steps p.tables e below (s₁.setTop (mkF m 24 #[.val (.ref r0), .val (.int p1), .val (.int p2), .val (.int p3), .val (.ref r4), .val (.int p5), .val (.int (p1 - p2)), .unset] [])) t
        refine XS.iload X0.here hx rfl (hb hby d3_24) rfl ?_
        show Steps p.tables e below (s₁.setTop (mkF m 26 #[.val (.ref r0), .val (.int p1), .val (.int p2), .val (.int p3), .val (.ref r4), .val (.int p5), .val (.int (p1 - p2)), .unset] [(.int p5)])) t
        refine XS.istore X0.here hx rfl (hb hby d3_26) rfl (l' := #[.val (.ref r0), .val (.int p1), .val (.int p2), .val (.int p3), .val (.ref r4), .val (.int p5), .val (.int (p1 - p2)), .val (.int p5)]) rfl ?_
        show Steps p.tables e below (s₁.setTop (mkF m 28 #[.val (.ref r0), .val (.int p1), .val (.int p2), .val (.int p3), .val (.ref r4), .val (.int p5), .val (.int (p1 - p2)), .val (.int p5)] [])) t
        refine XS.aloadN X0.here hx rfl (hb hby d3_28) rfl rfl ?_
        show Steps p.tables e below (s₁.setTop (mkF m 29 #[.val (.ref r0), .val (.int p1), .val (.int p2), .val (.int p3), .val (.ref r4), .val (.int p5), .val (.int (p1 - p2)), .val (.int p5)] [(.ref r0)])) t
        refine XS.iloadN X0.here hx rfl (hb hby d3_29) rfl ?_
        show Steps p.tables e below (s₁.setTop (mkF m 30 #[.val (.ref r0), .val (.int p1), .val (.int p2), .val (.int p3), .val (.ref r4), .val (.int p5), .val (.int (p1 - p2)), .val (.int p5)] [(.int p1), (.ref r0)])) t
        refine own_bld X0 hx hZ e0 V_r0 (j := p1) hi.1 hi.2 (g := (mkF m 30 #[.val (.ref r0), .val (.int p1), .val (.int p2), .val (.int p3), .val (.ref r4), .val (.int p5), .val (.int (p1 - p2)), .val (.int p5)] [(.int p1), (.ref r0)])) rfl rfl (hb hby d3_30) _ ?_
        show Steps p.tables e below (s₁.setTop (mkF m 31 #[.val (.ref r0), .val (.int p1), .val (.int p2), .val (.int p3), .val (.ref r4), .val (.int p5), .val (.int (p1 - p2)), .val (.int p5)] [(.int (B0 (p1).toNatClampNeg))])) t
        refine XS.iload X0.here hx rfl (hb hby d3_31) rfl ?_
        exact k
      by_cases hc33_14 : (B0 (p1).toNatClampNeg) = p5
      · have k15 : own_Go p e below (s₁.setTop (entryFrame m #[(.ref r0), (.int p1), (.int p2), (.int p3), (.ref r4), (.int p5)] 8)) (s₁.setTop (mkF m 41 #[.val (.ref r0), .val (.int p1), .val (.int p2), .val (.int p3), .val (.ref r4), .val (.int p5), .val (.int (p1 - p2)), .val (.int p5)] [(.int (1 : Int32))])) := by
          intro t k
          refine k13 t ?_
          show Steps p.tables e below (s₁.setTop (mkF m 33 #[.val (.ref r0), .val (.int p1), .val (.int p2), .val (.int p3), .val (.ref r4), .val (.int p5), .val (.int (p1 - p2)), .val (.int p5)] [(.int p5), (.int (B0 (p1).toNatClampNeg))])) t
          refine XS.icmpNo X0.here hx rfl (hb hby d3_33) rfl (teq hc33_14).2 ?_
          show Steps p.tables e below (s₁.setTop (mkF m 36 #[.val (.ref r0), .val (.int p1), .val (.int p2), .val (.int p3), .val (.ref r4), .val (.int p5), .val (.int (p1 - p2)), .val (.int p5)] [])) t
          refine XS.iconst X0.here hx rfl (hb hby d3_36) ?_
          show Steps p.tables e below (s₁.setTop (mkF m 37 #[.val (.ref r0), .val (.int p1), .val (.int p2), .val (.int p3), .val (.ref r4), .val (.int p5), .val (.int (p1 - p2)), .val (.int p5)] [(.int (1 : Int32))])) t
          refine XS.goto X0.here hx rfl (pc0 := 37) (pc' := 41) rfl (hb hby d3_37) (by decide) (by decide) ?_
          exact k
        obtain ⟨fs, hr, hrun, hended, hW, hsame⟩ := X0.leave (v := some (.int (1 : Int32))) (fun h => by rw [Bd.returns] at h; cases h)
        refine ⟨_, _, k15 _ ?_, hrun, hended, _, _, rfl, ?_, ⟨_, rfl⟩, hW, hsame.mono (by decide) (by decide)⟩
        · exact retN X0 hx (t := .boolean) Bd.returns (by simp) (hb hby d3_41) hr
        · show Q3 Z r0 p1 p2 p3 r4 p5 B0 E4 h0 n0 _ s₁.heap _
          rw [e0]
          exact ⟨congrArg (fun z => some (Value.int z)) (show f3 p1 p2 p3 p5 B0 E4 = (1 : Int32) from (by unfold f3; rw [if_neg hc7_2, if_neg hc13_8, if_pos hc33_14])).symm, N0, rfl⟩
      · have k16 : own_Go p e below (s₁.setTop (entryFrame m #[(.ref r0), (.int p1), (.int p2), (.int p3), (.ref r4), (.int p5)] 8)) (s₁.setTop (mkF m 41 #[.val (.ref r0), .val (.int p1), .val (.int p2), .val (.int p3), .val (.ref r4), .val (.int p5), .val (.int (p1 - p2)), .val (.int p5)] [(.int (0 : Int32))])) := by
          intro t k
          refine k13 t ?_
          show Steps p.tables e below (s₁.setTop (mkF m 33 #[.val (.ref r0), .val (.int p1), .val (.int p2), .val (.int p3), .val (.ref r4), .val (.int p5), .val (.int (p1 - p2)), .val (.int p5)] [(.int p5), (.int (B0 (p1).toNatClampNeg))])) t
          refine XS.icmpYes X0.here hx rfl (pc0 := 33) (pc' := 40) rfl (hb hby d3_33) rfl (feq hc33_14).2 (by decide) (by decide) ?_
          show Steps p.tables e below (s₁.setTop (mkF m 40 #[.val (.ref r0), .val (.int p1), .val (.int p2), .val (.int p3), .val (.ref r4), .val (.int p5), .val (.int (p1 - p2)), .val (.int p5)] [])) t
          refine XS.iconst X0.here hx rfl (hb hby d3_40) ?_
          exact k
        obtain ⟨fs, hr, hrun, hended, hW, hsame⟩ := X0.leave (v := some (.int (0 : Int32))) (fun h => by rw [Bd.returns] at h; cases h)
        refine ⟨_, _, k16 _ ?_, hrun, hended, _, _, rfl, ?_, ⟨_, rfl⟩, hW, hsame.mono (by decide) (by decide)⟩
        · exact retN X0 hx (t := .boolean) Bd.returns (by simp) (hb hby d3_41) hr
        · show Q3 Z r0 p1 p2 p3 r4 p5 B0 E4 h0 n0 _ s₁.heap _
          rw [e0]
          exact ⟨congrArg (fun z => some (Value.int z)) (show f3 p1 p2 p3 p5 B0 E4 = (0 : Int32) from (by unfold f3; rw [if_neg hc7_2, if_neg hc13_8, if_neg hc33_14])).symm, N0, rfl⟩
theorem pd_0 : parseMethodDescriptor "(I)B" = some ⟨[.int], some .byte⟩ := by decide +kernel
theorem pd_1 : parseMethodDescriptor "(C[BI)I" = some ⟨[.char, (.array .byte), .int], some .int⟩ := by decide +kernel
theorem pd_2 : parseMethodDescriptor "([BIII[BB)Z" = some ⟨[(.array .byte), .int, .int, .int, (.array .byte), .byte], some .boolean⟩ := by decide +kernel
theorem ef_0 (m : MethodId) (p0 : Int32) (p1 : Int32) (p2 : Int32) : entryFrame m #[(.int p0), (.int p1), (.int p2)] maxLocals = mkF m 0 #[.val (.int p0), .val (.int p1), .val (.int p2), .unset, .unset, .unset, .unset, .unset, .unset, .unset, .unset, .unset] [] := by first | (simp [entryFrame, mkF, argsToLocals, Value.category, maxLocals]; done) | rfl
def v0_5 (p0 : Int32) : Int32 := ((p0 &&& (65535 : Int32)).toUInt32.toUInt16.toUInt32.toInt32)
def B0_27 (p2 : Int32) : Nat → Int32 := own_up (fun _ => 0) 0 ((p2.toInt8.toInt32).toInt8.toInt32)
def B0_33 (p2 : Int32) : Nat → Int32 := own_up (B0_27 p2) 1 ((p2.toInt8.toInt32).toInt8.toInt32)
def B0_39 (p2 : Int32) : Nat → Int32 := own_up (B0_33 p2) 2 ((p2.toInt8.toInt32).toInt8.toInt32)
def B0_45 (p2 : Int32) : Nat → Int32 := own_up (B0_39 p2) 3 ((p2.toInt8.toInt32).toInt8.toInt32)
def B0_51 (p2 : Int32) : Nat → Int32 := own_up (B0_45 p2) 4 ((p2.toInt8.toInt32).toInt8.toInt32)
def B0_57 (p2 : Int32) : Nat → Int32 := own_up (B0_51 p2) 5 ((p2.toInt8.toInt32).toInt8.toInt32)
def B0_64 (p2 : Int32) : Nat → Int32 := own_up (B0_57 p2) 6 ((p2.toInt8.toInt32).toInt8.toInt32)
def B0_71 (p2 : Int32) : Nat → Int32 := own_up (B0_64 p2) 7 ((p2.toInt8.toInt32).toInt8.toInt32)
def B0_78 (p2 : Int32) : Nat → Int32 := own_up (B0_71 p2) 8 ((p2.toInt8.toInt32).toInt8.toInt32)
def B0_85 (p2 : Int32) : Nat → Int32 := own_up (B0_78 p2) 9 ((p2.toInt8.toInt32).toInt8.toInt32)
def B0_92 (p2 : Int32) : Nat → Int32 := own_up (B0_85 p2) 10 ((p2.toInt8.toInt32).toInt8.toInt32)
def B0_99 (p2 : Int32) : Nat → Int32 := own_up (B0_92 p2) 11 ((p2.toInt8.toInt32).toInt8.toInt32)
def B0_106 (p2 : Int32) : Nat → Int32 := own_up (B0_99 p2) 12 ((p2.toInt8.toInt32).toInt8.toInt32)
def B0_113 (p2 : Int32) : Nat → Int32 := own_up (B0_106 p2) 13 ((p2.toInt8.toInt32).toInt8.toInt32)
def B0_145  : Nat → Int32 := own_up (fun _ => 0) 0 ((92 : Int32).toInt8.toInt32)
def B0_152 (p0 : Int32) : Nat → Int32 := own_up B0_145 1 (((v0_5 p0).toInt8.toInt32).toInt8.toInt32)
def B0_198  : Nat → Int32 := own_up (fun _ => 0) 0 ((92 : Int32).toInt8.toInt32)
def B0_204  : Nat → Int32 := own_up B0_198 1 ((116 : Int32).toInt8.toInt32)
def B0_217  : Nat → Int32 := own_up (fun _ => 0) 0 ((92 : Int32).toInt8.toInt32)
def B0_223  : Nat → Int32 := own_up B0_217 1 ((117 : Int32).toInt8.toInt32)
def B0_236 (p0 : Int32) : Nat → Int32 := own_up B0_223 2 ((f1 ((v0_5 p0) / (4096 : Int32))).toInt8.toInt32)
def B0_252 (p0 : Int32) : Nat → Int32 := own_up (B0_236 p0) 3 ((f1 (((v0_5 p0) / (256 : Int32)) % (16 : Int32))).toInt8.toInt32)
def B0_267 (p0 : Int32) : Nat → Int32 := own_up (B0_252 p0) 4 ((f1 (((v0_5 p0) / (16 : Int32)) % (16 : Int32))).toInt8.toInt32)
def B0_279 (p0 : Int32) : Nat → Int32 := own_up (B0_267 p0) 5 ((f1 ((v0_5 p0) % (16 : Int32))).toInt8.toInt32)
def B0_179 (p0 : Int32) : Nat → Int32 := own_up (fun _ => 0) 0 (((v0_5 p0).toInt8.toInt32).toInt8.toInt32)
def m0_280_l8 (p0 : Int32) : Int32 := (if (v0_5 p0) = (34 : Int32) then (2 : Int32) else (if (v0_5 p0) = (92 : Int32) then (2 : Int32) else (if (v0_5 p0) < (32 : Int32) then (if (v0_5 p0) = (9 : Int32) then (2 : Int32) else (6 : Int32)) else (if (126 : Int32) < (v0_5 p0) then (if (v0_5 p0) = (9 : Int32) then (2 : Int32) else (6 : Int32)) else (1 : Int32)))))
def m0_280_b47 (p0 : Int32) : Nat → Int32 := (if (v0_5 p0) = (34 : Int32) then (B0_152 p0) else (if (v0_5 p0) = (92 : Int32) then (B0_152 p0) else (if (v0_5 p0) < (32 : Int32) then (if (v0_5 p0) = (9 : Int32) then B0_204 else (B0_279 p0)) else (if (126 : Int32) < (v0_5 p0) then (if (v0_5 p0) = (9 : Int32) then B0_204 else (B0_279 p0)) else (B0_179 p0)))))
def B0_esc (p0 : Int32) (p1 : Int32) (p2 : Int32) (HX : Nat → Int32) : Nat → Int32 := (G2 (v0_5 p0) (p1 &&& (7 : Int32)) (B0_113 p2) HX)
def v0_288 (p0 : Int32) (p1 : Int32) (p2 : Int32) (HX : Nat → Int32) : Int32 := (f2 (v0_5 p0) (p1 &&& (7 : Int32)) (B0_113 p2) HX)
def m0_305_s0 (p0 : Int32) (p1 : Int32) (p2 : Int32) (HX : Nat → Int32) : Int32 := (if (v0_288 p0 p1 p2 HX) = ((p1 &&& (7 : Int32)) + (m0_280_l8 p0)) then (1 : Int32) else (0 : Int32))
def m0_368_s0 (p0 : Int32) (p1 : Int32) (p2 : Int32) (HX : Nat → Int32) : Int32 := (if (m0_305_s0 p0 p1 p2 HX) = (0 : Int32) then (0 : Int32) else (if (f3 (0 : Int32) (p1 &&& (7 : Int32)) (m0_280_l8 p0) (p2.toInt8.toInt32) (B0_esc p0 p1 p2 HX) (m0_280_b47 p0)) = (0 : Int32) then (0 : Int32) else (if (f3 (1 : Int32) (p1 &&& (7 : Int32)) (m0_280_l8 p0) (p2.toInt8.toInt32) (B0_esc p0 p1 p2 HX) (m0_280_b47 p0)) = (0 : Int32) then (0 : Int32) else (if (f3 (2 : Int32) (p1 &&& (7 : Int32)) (m0_280_l8 p0) (p2.toInt8.toInt32) (B0_esc p0 p1 p2 HX) (m0_280_b47 p0)) = (0 : Int32) then (0 : Int32) else (1 : Int32)))))
def m0_431_s0 (p0 : Int32) (p1 : Int32) (p2 : Int32) (HX : Nat → Int32) : Int32 := (if (m0_368_s0 p0 p1 p2 HX) = (0 : Int32) then (0 : Int32) else (if (f3 (3 : Int32) (p1 &&& (7 : Int32)) (m0_280_l8 p0) (p2.toInt8.toInt32) (B0_esc p0 p1 p2 HX) (m0_280_b47 p0)) = (0 : Int32) then (0 : Int32) else (if (f3 (4 : Int32) (p1 &&& (7 : Int32)) (m0_280_l8 p0) (p2.toInt8.toInt32) (B0_esc p0 p1 p2 HX) (m0_280_b47 p0)) = (0 : Int32) then (0 : Int32) else (if (f3 (5 : Int32) (p1 &&& (7 : Int32)) (m0_280_l8 p0) (p2.toInt8.toInt32) (B0_esc p0 p1 p2 HX) (m0_280_b47 p0)) = (0 : Int32) then (0 : Int32) else (1 : Int32)))))
def m0_497_s0 (p0 : Int32) (p1 : Int32) (p2 : Int32) (HX : Nat → Int32) : Int32 := (if (m0_431_s0 p0 p1 p2 HX) = (0 : Int32) then (0 : Int32) else (if (f3 (6 : Int32) (p1 &&& (7 : Int32)) (m0_280_l8 p0) (p2.toInt8.toInt32) (B0_esc p0 p1 p2 HX) (m0_280_b47 p0)) = (0 : Int32) then (0 : Int32) else (if (f3 (7 : Int32) (p1 &&& (7 : Int32)) (m0_280_l8 p0) (p2.toInt8.toInt32) (B0_esc p0 p1 p2 HX) (m0_280_b47 p0)) = (0 : Int32) then (0 : Int32) else (if (f3 (8 : Int32) (p1 &&& (7 : Int32)) (m0_280_l8 p0) (p2.toInt8.toInt32) (B0_esc p0 p1 p2 HX) (m0_280_b47 p0)) = (0 : Int32) then (0 : Int32) else (1 : Int32)))))
def m0_563_s0 (p0 : Int32) (p1 : Int32) (p2 : Int32) (HX : Nat → Int32) : Int32 := (if (m0_497_s0 p0 p1 p2 HX) = (0 : Int32) then (0 : Int32) else (if (f3 (9 : Int32) (p1 &&& (7 : Int32)) (m0_280_l8 p0) (p2.toInt8.toInt32) (B0_esc p0 p1 p2 HX) (m0_280_b47 p0)) = (0 : Int32) then (0 : Int32) else (if (f3 (10 : Int32) (p1 &&& (7 : Int32)) (m0_280_l8 p0) (p2.toInt8.toInt32) (B0_esc p0 p1 p2 HX) (m0_280_b47 p0)) = (0 : Int32) then (0 : Int32) else (if (f3 (11 : Int32) (p1 &&& (7 : Int32)) (m0_280_l8 p0) (p2.toInt8.toInt32) (B0_esc p0 p1 p2 HX) (m0_280_b47 p0)) = (0 : Int32) then (0 : Int32) else (1 : Int32)))))
def m0_611_s0 (p0 : Int32) (p1 : Int32) (p2 : Int32) (HX : Nat → Int32) : Int32 := (if (m0_563_s0 p0 p1 p2 HX) = (0 : Int32) then (0 : Int32) else (if (f3 (12 : Int32) (p1 &&& (7 : Int32)) (m0_280_l8 p0) (p2.toInt8.toInt32) (B0_esc p0 p1 p2 HX) (m0_280_b47 p0)) = (0 : Int32) then (0 : Int32) else (if (f3 (13 : Int32) (p1 &&& (7 : Int32)) (m0_280_l8 p0) (p2.toInt8.toInt32) (B0_esc p0 p1 p2 HX) (m0_280_b47 p0)) = (0 : Int32) then (0 : Int32) else (1 : Int32))))
def f0 (p0 : Int32) (p1 : Int32) (p2 : Int32) (HX : Nat → Int32) : Int32 := ((m0_611_s0 p0 p1 p2 HX) &&& 1)
theorem own_u16 (u : UInt16) : (u.toUInt32.toInt32).toInt = (u.toNat : Int) := by
  have e : u.toUInt32.toBitVec.toNat = u.toNat := UInt16.toNat_toUInt32 u
  have hu := u.toNat_lt
  have q : u.toUInt32.toBitVec.toInt = (u.toUInt32.toBitVec.toNat : Int) := BitVec.toInt_eq_toNat_of_lt (by omega)
  exact q.trans (by rw [e])
theorem own_char (p : Int32) : 0 ≤ (v0_5 p).toInt ∧ (v0_5 p).toInt < 65536 := by
  unfold v0_5
  rw [own_u16]
  have := (p &&& (65535 : Int32)).toUInt32.toUInt16.toNat_lt
  omega
theorem own_n6 (p : Int32) : (m0_280_l8 p).toInt ≤ 6 := by
  unfold m0_280_l8
  repeat' split
  all_goals decide

def Q0 (Z : State) (p0 : Int32) (p1 : Int32) (p2 : Int32) (HX : Nat → Int32) (wH : Addr) (h0 : Heap) (n0 : Nat) (v : Option Value) (h : Heap) (L : List Loc) : Prop := v = some (.int (f0 p0 p1 p2 HX)) ∧ Fr n0 L
set_option maxRecDepth 65536 in
set_option maxHeartbeats 40000000 in
theorem rm0 (l : Launch) (Z : State) (a0 : Array Value) (hw : ∀ d ∈ tables_1, d.before a0 Z = true) (ws : List Jvm.Cond) (p0 : Int32) (p1 : Int32) (p2 : Int32) (HX : Nat → Int32) (wH : Addr) (h0 : Heap) (n0 : Nat) (Z0 : n0 ≤ h0.size) (S_H : Sta Z h0 "com/example/segmentry/segmentry/io/JsonText" "HEX_DIGITS" "[B" (.ref wH)) (V_H : own_By Z h0 wH 16 HX) :
    MetFree l x (head1 (Jvm.Cond.code x code maxLocals ret :: ws) room_1) (fun a U => a = #[(.int p0), (.int p1), (.int p2)] ∧ Z.Warmed39 U.vm ∧ U.heap = h0) (fun _ _ _ _ _ => True) (fun _ U o U' => ∃ v L, o = .returned v ∧ Q0 Z p0 p1 p2 HX wH h0 n0 v U'.heap L ∧ FrameEnd U o U' L room_1.cells room_1.slots) := by
  refine MetFree.of_bodySF (plainFor_of_name pn_0) hisR ?_
  intro p e s m args below meth c s₁ Bd hml0 hP hK
  obtain ⟨rfl, hZ, hh⟩ := hP
  have hx := Bd.exec
  have hby := Bd.bytes
  have hml : c.maxLocals = 12 := hml0
  have hown : s.vm.findClass "com/example/segmentry/segmentry/io/JsonTextEscapePinLaw" = some m.cls := findClass_of_methodNamed Bd.named
  have hnm := (name_of_methodNamed Bd.named Bd.method).1
  have X0 : Stand p l e room_1 s m #[(.int p0), (.int p1), (.int p2)] below meth c s₁ [] 0 0 := Stand.of_body Bd
  have e0 : s₁.heap = h0 := by rw [← hh, Bd.state]; rfl
  have N0 := Fr.nil n0
  have pre0 : own_Go p e below (s₁.setTop (entryFrame m #[(.int p0), (.int p1), (.int p2)] maxLocals)) (s₁.setTop (mkF m 0 #[.val (.int p0), .val (.int p1), .val (.int p2), .unset, .unset, .unset, .unset, .unset, .unset, .unset, .unset, .unset] [])) := fun t k => castTop (ef_0 m p0 p1 p2) k
  have k1 : own_Go p e below (s₁.setTop (entryFrame m #[(.int p0), (.int p1), (.int p2)] maxLocals)) (s₁.setTop (mkF m 18 #[.val (.int p0), .val (.int p1), .val (.int p2), .val (.int (v0_5 p0)), .val (.int (p1 &&& (7 : Int32))), .val (.int (p2.toInt8.toInt32)), .unset, .unset, .unset, .unset, .unset, .unset] [(.int (14 : Int32))])) := by
    intro t k
    refine pre0 t ?_
    show Steps p.tables e below (s₁.setTop (mkF m 0 #[.val (.int p0), .val (.int p1), .val (.int p2), .unset, .unset, .unset, .unset, .unset, .unset, .unset, .unset, .unset] [])) t
    refine XS.iloadN X0.here hx rfl (hb hby at_0) rfl ?_
    show Steps p.tables e below (s₁.setTop (mkF m 1 #[.val (.int p0), .val (.int p1), .val (.int p2), .unset, .unset, .unset, .unset, .unset, .unset, .unset, .unset, .unset] [(.int p0)])) t
    refine X0.ldcInt hx hown (mvT hZ (hw _ (List.mem_of_getElem? (i := 0) rfl))) (g := (mkF m 1 #[.val (.int p0), .val (.int p1), .val (.int p2), .unset, .unset, .unset, .unset, .unset, .unset, .unset, .unset, .unset] [(.int p0)])) rfl (hb hby at_1) _ ?_
    show Steps p.tables e below (s₁.setTop (mkF m 3 #[.val (.int p0), .val (.int p1), .val (.int p2), .unset, .unset, .unset, .unset, .unset, .unset, .unset, .unset, .unset] [(.int (65535 : Int32)), (.int p0)])) t
    refine XS.iand X0.here hx rfl (hb hby at_3) rfl ?_
    show Steps p.tables e below (s₁.setTop (mkF m 4 #[.val (.int p0), .val (.int p1), .val (.int p2), .unset, .unset, .unset, .unset, .unset, .unset, .unset, .unset, .unset] [(.int (p0 &&& (65535 : Int32)))])) t
    refine XS.i2c X0.here hx rfl (hb hby at_4) rfl ?_
    show Steps p.tables e below (s₁.setTop (mkF m 5 #[.val (.int p0), .val (.int p1), .val (.int p2), .unset, .unset, .unset, .unset, .unset, .unset, .unset, .unset, .unset] [(.int ((p0 &&& (65535 : Int32)).toUInt32.toUInt16.toUInt32.toInt32))])) t
    refine XS.istoreN X0.here hx rfl (hb hby at_5) rfl (l' := #[.val (.int p0), .val (.int p1), .val (.int p2), .val (.int (v0_5 p0)), .unset, .unset, .unset, .unset, .unset, .unset, .unset, .unset]) rfl ?_
    show Steps p.tables e below (s₁.setTop (mkF m 6 #[.val (.int p0), .val (.int p1), .val (.int p2), .val (.int (v0_5 p0)), .unset, .unset, .unset, .unset, .unset, .unset, .unset, .unset] [])) t
    refine XS.iloadN X0.here hx rfl (hb hby at_6) rfl ?_
    show Steps p.tables e below (s₁.setTop (mkF m 7 #[.val (.int p0), .val (.int p1), .val (.int p2), .val (.int (v0_5 p0)), .unset, .unset, .unset, .unset, .unset, .unset, .unset, .unset] [(.int p1)])) t
    refine XS.bipush X0.here hx rfl (hb hby at_7) ?_
    show Steps p.tables e below (s₁.setTop (mkF m 9 #[.val (.int p0), .val (.int p1), .val (.int p2), .val (.int (v0_5 p0)), .unset, .unset, .unset, .unset, .unset, .unset, .unset, .unset] [(.int (7 : Int32)), (.int p1)])) t
    refine XS.iand X0.here hx rfl (hb hby at_9) rfl ?_
    show Steps p.tables e below (s₁.setTop (mkF m 10 #[.val (.int p0), .val (.int p1), .val (.int p2), .val (.int (v0_5 p0)), .unset, .unset, .unset, .unset, .unset, .unset, .unset, .unset] [(.int (p1 &&& (7 : Int32)))])) t
    refine XS.istore X0.here hx rfl (hb hby at_10) rfl (l' := #[.val (.int p0), .val (.int p1), .val (.int p2), .val (.int (v0_5 p0)), .val (.int (p1 &&& (7 : Int32))), .unset, .unset, .unset, .unset, .unset, .unset, .unset]) rfl ?_
    show Steps p.tables e below (s₁.setTop (mkF m 12 #[.val (.int p0), .val (.int p1), .val (.int p2), .val (.int (v0_5 p0)), .val (.int (p1 &&& (7 : Int32))), .unset, .unset, .unset, .unset, .unset, .unset, .unset] [])) t
    refine XS.iloadN X0.here hx rfl (hb hby at_12) rfl ?_
    show Steps p.tables e below (s₁.setTop (mkF m 13 #[.val (.int p0), .val (.int p1), .val (.int p2), .val (.int (v0_5 p0)), .val (.int (p1 &&& (7 : Int32))), .unset, .unset, .unset, .unset, .unset, .unset, .unset] [(.int p2)])) t
    refine XS.i2b X0.here hx rfl (hb hby at_13) rfl ?_
    show Steps p.tables e below (s₁.setTop (mkF m 14 #[.val (.int p0), .val (.int p1), .val (.int p2), .val (.int (v0_5 p0)), .val (.int (p1 &&& (7 : Int32))), .unset, .unset, .unset, .unset, .unset, .unset, .unset] [(.int (p2.toInt8.toInt32))])) t
    refine XS.istore X0.here hx rfl (hb hby at_14) rfl (l' := #[.val (.int p0), .val (.int p1), .val (.int p2), .val (.int (v0_5 p0)), .val (.int (p1 &&& (7 : Int32))), .val (.int (p2.toInt8.toInt32)), .unset, .unset, .unset, .unset, .unset, .unset]) rfl ?_
    show Steps p.tables e below (s₁.setTop (mkF m 16 #[.val (.int p0), .val (.int p1), .val (.int p2), .val (.int (v0_5 p0)), .val (.int (p1 &&& (7 : Int32))), .val (.int (p2.toInt8.toInt32)), .unset, .unset, .unset, .unset, .unset, .unset] [])) t
    refine XS.bipush X0.here hx rfl (hb hby at_16) ?_
    exact k
  obtain ⟨T2, h2, k'2, X2, e2, E2, A2, st2⟩ := newP X0 hx hZ (hw _ (List.mem_of_getElem? (i := 1) rfl)) e0 (g := (mkF m 18 #[.val (.int p0), .val (.int p1), .val (.int p2), .val (.int (v0_5 p0)), .val (.int (p1 &&& (7 : Int32))), .val (.int (p2.toInt8.toInt32)), .unset, .unset, .unset, .unset, .unset, .unset] [(.int (14 : Int32))])) rfl (hb hby at_18) rfl (by decide) (cap := 14) (by decide) (by decide) (by decide) (by decide)
  obtain ⟨b2, g2⟩ : ∃ z, z = h0.size := ⟨_, rfl⟩
  rw [← g2] at A2 st2
  have V2 : own_By Z h2 b2 14 (fun _ => 0) := own_By.new A2 rfl
  have g_b2 : n0 ≤ b2 := Nat.le_trans Z0 (Nat.le_of_eq g2.symm)
  have k3 : own_Go p e below (s₁.setTop (entryFrame m #[(.int p0), (.int p1), (.int p2)] maxLocals)) (T2.setTop (mkF m 20 #[.val (.int p0), .val (.int p1), .val (.int p2), .val (.int (v0_5 p0)), .val (.int (p1 &&& (7 : Int32))), .val (.int (p2.toInt8.toInt32)), .unset, .unset, .unset, .unset, .unset, .unset] [(.ref b2)])) := fun t k => k1 t (st2 t k)
  have k4 : own_Go p e below (s₁.setTop (entryFrame m #[(.int p0), (.int p1), (.int p2)] maxLocals)) (T2.setTop (mkF m 27 #[.val (.int p0), .val (.int p1), .val (.int p2), .val (.int (v0_5 p0)), .val (.int (p1 &&& (7 : Int32))), .val (.int (p2.toInt8.toInt32)), .val (.ref b2), .unset, .unset, .unset, .unset, .unset] [(.int (p2.toInt8.toInt32)), (.int (0 : Int32)), (.ref b2)])) := by
    intro t k
    refine k3 t ?_
    show Steps p.tables e below (T2.setTop (mkF m 20 #[.val (.int p0), .val (.int p1), .val (.int p2), .val (.int (v0_5 p0)), .val (.int (p1 &&& (7 : Int32))), .val (.int (p2.toInt8.toInt32)), .unset, .unset, .unset, .unset, .unset, .unset] [(.ref b2)])) t
    refine XS.astore X2.here hx rfl (hb hby at_20) rfl rfl (l' := #[.val (.int p0), .val (.int p1), .val (.int p2), .val (.int (v0_5 p0)), .val (.int (p1 &&& (7 : Int32))), .val (.int (p2.toInt8.toInt32)), .val (.ref b2), .unset, .unset, .unset, .unset, .unset]) rfl ?_
    show Steps p.tables e below (T2.setTop (mkF m 22 #[.val (.int p0), .val (.int p1), .val (.int p2), .val (.int (v0_5 p0)), .val (.int (p1 &&& (7 : Int32))), .val (.int (p2.toInt8.toInt32)), .val (.ref b2), .unset, .unset, .unset, .unset, .unset] [])) t
    refine XS.aload X2.here hx rfl (hb hby at_22) rfl rfl ?_
    show Steps p.tables e below (T2.setTop (mkF m 24 #[.val (.int p0), .val (.int p1), .val (.int p2), .val (.int (v0_5 p0)), .val (.int (p1 &&& (7 : Int32))), .val (.int (p2.toInt8.toInt32)), .val (.ref b2), .unset, .unset, .unset, .unset, .unset] [(.ref b2)])) t
    refine XS.iconst X2.here hx rfl (hb hby at_24) ?_
    show Steps p.tables e below (T2.setTop (mkF m 25 #[.val (.int p0), .val (.int p1), .val (.int p2), .val (.int (v0_5 p0)), .val (.int (p1 &&& (7 : Int32))), .val (.int (p2.toInt8.toInt32)), .val (.ref b2), .unset, .unset, .unset, .unset, .unset] [(.int (0 : Int32)), (.ref b2)])) t
    refine XS.iload X2.here hx rfl (hb hby at_25) rfl ?_
    exact k
  obtain ⟨T5, h5, X5, e5, W5, V5, st5⟩ := own_bst X2 hx hZ e2 V2 (j := (0 : Int32)) (by decide) (by decide) (g := (mkF m 27 #[.val (.int p0), .val (.int p1), .val (.int p2), .val (.int (v0_5 p0)), .val (.int (p1 &&& (7 : Int32))), .val (.int (p2.toInt8.toInt32)), .val (.ref b2), .unset, .unset, .unset, .unset, .unset] [(.int (p2.toInt8.toInt32)), (.int (0 : Int32)), (.ref b2)])) rfl rfl (hb hby at_27)
  have V5' : own_By Z h5 b2 14 (B0_27 p2) := V5
  have N5 := Fr.snoc X5 N0 g_b2
  have k6 : own_Go p e below (s₁.setTop (entryFrame m #[(.int p0), (.int p1), (.int p2)] maxLocals)) (T5.setTop (mkF m 28 #[.val (.int p0), .val (.int p1), .val (.int p2), .val (.int (v0_5 p0)), .val (.int (p1 &&& (7 : Int32))), .val (.int (p2.toInt8.toInt32)), .val (.ref b2), .unset, .unset, .unset, .unset, .unset] [])) := fun t k => k4 t (st5 t k)
  have k7 : own_Go p e below (s₁.setTop (entryFrame m #[(.int p0), (.int p1), (.int p2)] maxLocals)) (T5.setTop (mkF m 33 #[.val (.int p0), .val (.int p1), .val (.int p2), .val (.int (v0_5 p0)), .val (.int (p1 &&& (7 : Int32))), .val (.int (p2.toInt8.toInt32)), .val (.ref b2), .unset, .unset, .unset, .unset, .unset] [(.int (p2.toInt8.toInt32)), (.int (1 : Int32)), (.ref b2)])) := by
    intro t k
    refine k6 t ?_
    show Steps p.tables e below (T5.setTop (mkF m 28 #[.val (.int p0), .val (.int p1), .val (.int p2), .val (.int (v0_5 p0)), .val (.int (p1 &&& (7 : Int32))), .val (.int (p2.toInt8.toInt32)), .val (.ref b2), .unset, .unset, .unset, .unset, .unset] [])) t
    refine XS.aload X5.here hx rfl (hb hby at_28) rfl rfl ?_
    show Steps p.tables e below (T5.setTop (mkF m 30 #[.val (.int p0), .val (.int p1), .val (.int p2), .val (.int (v0_5 p0)), .val (.int (p1 &&& (7 : Int32))), .val (.int (p2.toInt8.toInt32)), .val (.ref b2), .unset, .unset, .unset, .unset, .unset] [(.ref b2)])) t
    refine XS.iconst X5.here hx rfl (hb hby at_30) ?_
    show Steps p.tables e below (T5.setTop (mkF m 31 #[.val (.int p0), .val (.int p1), .val (.int p2), .val (.int (v0_5 p0)), .val (.int (p1 &&& (7 : Int32))), .val (.int (p2.toInt8.toInt32)), .val (.ref b2), .unset, .unset, .unset, .unset, .unset] [(.int (1 : Int32)), (.ref b2)])) t
    refine XS.iload X5.here hx rfl (hb hby at_31) rfl ?_
    exact k
  obtain ⟨T8, h8, X8, e8, W8, V8, st8⟩ := own_bst X5 hx hZ e5 V5' (j := (1 : Int32)) (by decide) (by decide) (g := (mkF m 33 #[.val (.int p0), .val (.int p1), .val (.int p2), .val (.int (v0_5 p0)), .val (.int (p1 &&& (7 : Int32))), .val (.int (p2.toInt8.toInt32)), .val (.ref b2), .unset, .unset, .unset, .unset, .unset] [(.int (p2.toInt8.toInt32)), (.int (1 : Int32)), (.ref b2)])) rfl rfl (hb hby at_33)
  have V8' : own_By Z h8 b2 14 (B0_33 p2) := V8
  have N8 := Fr.snoc X8 N5 g_b2
  have k9 : own_Go p e below (s₁.setTop (entryFrame m #[(.int p0), (.int p1), (.int p2)] maxLocals)) (T8.setTop (mkF m 34 #[.val (.int p0), .val (.int p1), .val (.int p2), .val (.int (v0_5 p0)), .val (.int (p1 &&& (7 : Int32))), .val (.int (p2.toInt8.toInt32)), .val (.ref b2), .unset, .unset, .unset, .unset, .unset] [])) := fun t k => k7 t (st8 t k)
  have k10 : own_Go p e below (s₁.setTop (entryFrame m #[(.int p0), (.int p1), (.int p2)] maxLocals)) (T8.setTop (mkF m 39 #[.val (.int p0), .val (.int p1), .val (.int p2), .val (.int (v0_5 p0)), .val (.int (p1 &&& (7 : Int32))), .val (.int (p2.toInt8.toInt32)), .val (.ref b2), .unset, .unset, .unset, .unset, .unset] [(.int (p2.toInt8.toInt32)), (.int (2 : Int32)), (.ref b2)])) := by
    intro t k
    refine k9 t ?_
    show Steps p.tables e below (T8.setTop (mkF m 34 #[.val (.int p0), .val (.int p1), .val (.int p2), .val (.int (v0_5 p0)), .val (.int (p1 &&& (7 : Int32))), .val (.int (p2.toInt8.toInt32)), .val (.ref b2), .unset, .unset, .unset, .unset, .unset] [])) t
    refine XS.aload X8.here hx rfl (hb hby at_34) rfl rfl ?_
    show Steps p.tables e below (T8.setTop (mkF m 36 #[.val (.int p0), .val (.int p1), .val (.int p2), .val (.int (v0_5 p0)), .val (.int (p1 &&& (7 : Int32))), .val (.int (p2.toInt8.toInt32)), .val (.ref b2), .unset, .unset, .unset, .unset, .unset] [(.ref b2)])) t
    refine XS.iconst X8.here hx rfl (hb hby at_36) ?_
    show Steps p.tables e below (T8.setTop (mkF m 37 #[.val (.int p0), .val (.int p1), .val (.int p2), .val (.int (v0_5 p0)), .val (.int (p1 &&& (7 : Int32))), .val (.int (p2.toInt8.toInt32)), .val (.ref b2), .unset, .unset, .unset, .unset, .unset] [(.int (2 : Int32)), (.ref b2)])) t
    refine XS.iload X8.here hx rfl (hb hby at_37) rfl ?_
    exact k
  obtain ⟨T11, h11, X11, e11, W11, V11, st11⟩ := own_bst X8 hx hZ e8 V8' (j := (2 : Int32)) (by decide) (by decide) (g := (mkF m 39 #[.val (.int p0), .val (.int p1), .val (.int p2), .val (.int (v0_5 p0)), .val (.int (p1 &&& (7 : Int32))), .val (.int (p2.toInt8.toInt32)), .val (.ref b2), .unset, .unset, .unset, .unset, .unset] [(.int (p2.toInt8.toInt32)), (.int (2 : Int32)), (.ref b2)])) rfl rfl (hb hby at_39)
  have V11' : own_By Z h11 b2 14 (B0_39 p2) := V11
  have N11 := Fr.snoc X11 N8 g_b2
  have k12 : own_Go p e below (s₁.setTop (entryFrame m #[(.int p0), (.int p1), (.int p2)] maxLocals)) (T11.setTop (mkF m 40 #[.val (.int p0), .val (.int p1), .val (.int p2), .val (.int (v0_5 p0)), .val (.int (p1 &&& (7 : Int32))), .val (.int (p2.toInt8.toInt32)), .val (.ref b2), .unset, .unset, .unset, .unset, .unset] [])) := fun t k => k10 t (st11 t k)
  have k13 : own_Go p e below (s₁.setTop (entryFrame m #[(.int p0), (.int p1), (.int p2)] maxLocals)) (T11.setTop (mkF m 45 #[.val (.int p0), .val (.int p1), .val (.int p2), .val (.int (v0_5 p0)), .val (.int (p1 &&& (7 : Int32))), .val (.int (p2.toInt8.toInt32)), .val (.ref b2), .unset, .unset, .unset, .unset, .unset] [(.int (p2.toInt8.toInt32)), (.int (3 : Int32)), (.ref b2)])) := by
    intro t k
    refine k12 t ?_
    show Steps p.tables e below (T11.setTop (mkF m 40 #[.val (.int p0), .val (.int p1), .val (.int p2), .val (.int (v0_5 p0)), .val (.int (p1 &&& (7 : Int32))), .val (.int (p2.toInt8.toInt32)), .val (.ref b2), .unset, .unset, .unset, .unset, .unset] [])) t
    refine XS.aload X11.here hx rfl (hb hby at_40) rfl rfl ?_
    show Steps p.tables e below (T11.setTop (mkF m 42 #[.val (.int p0), .val (.int p1), .val (.int p2), .val (.int (v0_5 p0)), .val (.int (p1 &&& (7 : Int32))), .val (.int (p2.toInt8.toInt32)), .val (.ref b2), .unset, .unset, .unset, .unset, .unset] [(.ref b2)])) t
    refine XS.iconst X11.here hx rfl (hb hby at_42) ?_
    show Steps p.tables e below (T11.setTop (mkF m 43 #[.val (.int p0), .val (.int p1), .val (.int p2), .val (.int (v0_5 p0)), .val (.int (p1 &&& (7 : Int32))), .val (.int (p2.toInt8.toInt32)), .val (.ref b2), .unset, .unset, .unset, .unset, .unset] [(.int (3 : Int32)), (.ref b2)])) t
    refine XS.iload X11.here hx rfl (hb hby at_43) rfl ?_
    exact k
  obtain ⟨T14, h14, X14, e14, W14, V14, st14⟩ := own_bst X11 hx hZ e11 V11' (j := (3 : Int32)) (by decide) (by decide) (g := (mkF m 45 #[.val (.int p0), .val (.int p1), .val (.int p2), .val (.int (v0_5 p0)), .val (.int (p1 &&& (7 : Int32))), .val (.int (p2.toInt8.toInt32)), .val (.ref b2), .unset, .unset, .unset, .unset, .unset] [(.int (p2.toInt8.toInt32)), (.int (3 : Int32)), (.ref b2)])) rfl rfl (hb hby at_45)
  have V14' : own_By Z h14 b2 14 (B0_45 p2) := V14
  have N14 := Fr.snoc X14 N11 g_b2
  have k15 : own_Go p e below (s₁.setTop (entryFrame m #[(.int p0), (.int p1), (.int p2)] maxLocals)) (T14.setTop (mkF m 46 #[.val (.int p0), .val (.int p1), .val (.int p2), .val (.int (v0_5 p0)), .val (.int (p1 &&& (7 : Int32))), .val (.int (p2.toInt8.toInt32)), .val (.ref b2), .unset, .unset, .unset, .unset, .unset] [])) := fun t k => k13 t (st14 t k)
  have k16 : own_Go p e below (s₁.setTop (entryFrame m #[(.int p0), (.int p1), (.int p2)] maxLocals)) (T14.setTop (mkF m 51 #[.val (.int p0), .val (.int p1), .val (.int p2), .val (.int (v0_5 p0)), .val (.int (p1 &&& (7 : Int32))), .val (.int (p2.toInt8.toInt32)), .val (.ref b2), .unset, .unset, .unset, .unset, .unset] [(.int (p2.toInt8.toInt32)), (.int (4 : Int32)), (.ref b2)])) := by
    intro t k
    refine k15 t ?_
    show Steps p.tables e below (T14.setTop (mkF m 46 #[.val (.int p0), .val (.int p1), .val (.int p2), .val (.int (v0_5 p0)), .val (.int (p1 &&& (7 : Int32))), .val (.int (p2.toInt8.toInt32)), .val (.ref b2), .unset, .unset, .unset, .unset, .unset] [])) t
    refine XS.aload X14.here hx rfl (hb hby at_46) rfl rfl ?_
    show Steps p.tables e below (T14.setTop (mkF m 48 #[.val (.int p0), .val (.int p1), .val (.int p2), .val (.int (v0_5 p0)), .val (.int (p1 &&& (7 : Int32))), .val (.int (p2.toInt8.toInt32)), .val (.ref b2), .unset, .unset, .unset, .unset, .unset] [(.ref b2)])) t
    refine XS.iconst X14.here hx rfl (hb hby at_48) ?_
    show Steps p.tables e below (T14.setTop (mkF m 49 #[.val (.int p0), .val (.int p1), .val (.int p2), .val (.int (v0_5 p0)), .val (.int (p1 &&& (7 : Int32))), .val (.int (p2.toInt8.toInt32)), .val (.ref b2), .unset, .unset, .unset, .unset, .unset] [(.int (4 : Int32)), (.ref b2)])) t
    refine XS.iload X14.here hx rfl (hb hby at_49) rfl ?_
    exact k
  obtain ⟨T17, h17, X17, e17, W17, V17, st17⟩ := own_bst X14 hx hZ e14 V14' (j := (4 : Int32)) (by decide) (by decide) (g := (mkF m 51 #[.val (.int p0), .val (.int p1), .val (.int p2), .val (.int (v0_5 p0)), .val (.int (p1 &&& (7 : Int32))), .val (.int (p2.toInt8.toInt32)), .val (.ref b2), .unset, .unset, .unset, .unset, .unset] [(.int (p2.toInt8.toInt32)), (.int (4 : Int32)), (.ref b2)])) rfl rfl (hb hby at_51)
  have V17' : own_By Z h17 b2 14 (B0_51 p2) := V17
  have N17 := Fr.snoc X17 N14 g_b2
  have k18 : own_Go p e below (s₁.setTop (entryFrame m #[(.int p0), (.int p1), (.int p2)] maxLocals)) (T17.setTop (mkF m 52 #[.val (.int p0), .val (.int p1), .val (.int p2), .val (.int (v0_5 p0)), .val (.int (p1 &&& (7 : Int32))), .val (.int (p2.toInt8.toInt32)), .val (.ref b2), .unset, .unset, .unset, .unset, .unset] [])) := fun t k => k16 t (st17 t k)
  have k19 : own_Go p e below (s₁.setTop (entryFrame m #[(.int p0), (.int p1), (.int p2)] maxLocals)) (T17.setTop (mkF m 57 #[.val (.int p0), .val (.int p1), .val (.int p2), .val (.int (v0_5 p0)), .val (.int (p1 &&& (7 : Int32))), .val (.int (p2.toInt8.toInt32)), .val (.ref b2), .unset, .unset, .unset, .unset, .unset] [(.int (p2.toInt8.toInt32)), (.int (5 : Int32)), (.ref b2)])) := by
    intro t k
    refine k18 t ?_
    show Steps p.tables e below (T17.setTop (mkF m 52 #[.val (.int p0), .val (.int p1), .val (.int p2), .val (.int (v0_5 p0)), .val (.int (p1 &&& (7 : Int32))), .val (.int (p2.toInt8.toInt32)), .val (.ref b2), .unset, .unset, .unset, .unset, .unset] [])) t
    refine XS.aload X17.here hx rfl (hb hby at_52) rfl rfl ?_
    show Steps p.tables e below (T17.setTop (mkF m 54 #[.val (.int p0), .val (.int p1), .val (.int p2), .val (.int (v0_5 p0)), .val (.int (p1 &&& (7 : Int32))), .val (.int (p2.toInt8.toInt32)), .val (.ref b2), .unset, .unset, .unset, .unset, .unset] [(.ref b2)])) t
    refine XS.iconst X17.here hx rfl (hb hby at_54) ?_
    show Steps p.tables e below (T17.setTop (mkF m 55 #[.val (.int p0), .val (.int p1), .val (.int p2), .val (.int (v0_5 p0)), .val (.int (p1 &&& (7 : Int32))), .val (.int (p2.toInt8.toInt32)), .val (.ref b2), .unset, .unset, .unset, .unset, .unset] [(.int (5 : Int32)), (.ref b2)])) t
    refine XS.iload X17.here hx rfl (hb hby at_55) rfl ?_
    exact k
  obtain ⟨T20, h20, X20, e20, W20, V20, st20⟩ := own_bst X17 hx hZ e17 V17' (j := (5 : Int32)) (by decide) (by decide) (g := (mkF m 57 #[.val (.int p0), .val (.int p1), .val (.int p2), .val (.int (v0_5 p0)), .val (.int (p1 &&& (7 : Int32))), .val (.int (p2.toInt8.toInt32)), .val (.ref b2), .unset, .unset, .unset, .unset, .unset] [(.int (p2.toInt8.toInt32)), (.int (5 : Int32)), (.ref b2)])) rfl rfl (hb hby at_57)
  have V20' : own_By Z h20 b2 14 (B0_57 p2) := V20
  have N20 := Fr.snoc X20 N17 g_b2
  have k21 : own_Go p e below (s₁.setTop (entryFrame m #[(.int p0), (.int p1), (.int p2)] maxLocals)) (T20.setTop (mkF m 58 #[.val (.int p0), .val (.int p1), .val (.int p2), .val (.int (v0_5 p0)), .val (.int (p1 &&& (7 : Int32))), .val (.int (p2.toInt8.toInt32)), .val (.ref b2), .unset, .unset, .unset, .unset, .unset] [])) := fun t k => k19 t (st20 t k)
  have k22 : own_Go p e below (s₁.setTop (entryFrame m #[(.int p0), (.int p1), (.int p2)] maxLocals)) (T20.setTop (mkF m 64 #[.val (.int p0), .val (.int p1), .val (.int p2), .val (.int (v0_5 p0)), .val (.int (p1 &&& (7 : Int32))), .val (.int (p2.toInt8.toInt32)), .val (.ref b2), .unset, .unset, .unset, .unset, .unset] [(.int (p2.toInt8.toInt32)), (.int (6 : Int32)), (.ref b2)])) := by
    intro t k
    refine k21 t ?_
    show Steps p.tables e below (T20.setTop (mkF m 58 #[.val (.int p0), .val (.int p1), .val (.int p2), .val (.int (v0_5 p0)), .val (.int (p1 &&& (7 : Int32))), .val (.int (p2.toInt8.toInt32)), .val (.ref b2), .unset, .unset, .unset, .unset, .unset] [])) t
    refine XS.aload X20.here hx rfl (hb hby at_58) rfl rfl ?_
    show Steps p.tables e below (T20.setTop (mkF m 60 #[.val (.int p0), .val (.int p1), .val (.int p2), .val (.int (v0_5 p0)), .val (.int (p1 &&& (7 : Int32))), .val (.int (p2.toInt8.toInt32)), .val (.ref b2), .unset, .unset, .unset, .unset, .unset] [(.ref b2)])) t
    refine XS.bipush X20.here hx rfl (hb hby at_60) ?_
    show Steps p.tables e below (T20.setTop (mkF m 62 #[.val (.int p0), .val (.int p1), .val (.int p2), .val (.int (v0_5 p0)), .val (.int (p1 &&& (7 : Int32))), .val (.int (p2.toInt8.toInt32)), .val (.ref b2), .unset, .unset, .unset, .unset, .unset] [(.int (6 : Int32)), (.ref b2)])) t
    refine XS.iload X20.here hx rfl (hb hby at_62) rfl ?_
    exact k
  obtain ⟨T23, h23, X23, e23, W23, V23, st23⟩ := own_bst X20 hx hZ e20 V20' (j := (6 : Int32)) (by decide) (by decide) (g := (mkF m 64 #[.val (.int p0), .val (.int p1), .val (.int p2), .val (.int (v0_5 p0)), .val (.int (p1 &&& (7 : Int32))), .val (.int (p2.toInt8.toInt32)), .val (.ref b2), .unset, .unset, .unset, .unset, .unset] [(.int (p2.toInt8.toInt32)), (.int (6 : Int32)), (.ref b2)])) rfl rfl (hb hby at_64)
  have V23' : own_By Z h23 b2 14 (B0_64 p2) := V23
  have N23 := Fr.snoc X23 N20 g_b2
  have k24 : own_Go p e below (s₁.setTop (entryFrame m #[(.int p0), (.int p1), (.int p2)] maxLocals)) (T23.setTop (mkF m 65 #[.val (.int p0), .val (.int p1), .val (.int p2), .val (.int (v0_5 p0)), .val (.int (p1 &&& (7 : Int32))), .val (.int (p2.toInt8.toInt32)), .val (.ref b2), .unset, .unset, .unset, .unset, .unset] [])) := fun t k => k22 t (st23 t k)
  have k25 : own_Go p e below (s₁.setTop (entryFrame m #[(.int p0), (.int p1), (.int p2)] maxLocals)) (T23.setTop (mkF m 71 #[.val (.int p0), .val (.int p1), .val (.int p2), .val (.int (v0_5 p0)), .val (.int (p1 &&& (7 : Int32))), .val (.int (p2.toInt8.toInt32)), .val (.ref b2), .unset, .unset, .unset, .unset, .unset] [(.int (p2.toInt8.toInt32)), (.int (7 : Int32)), (.ref b2)])) := by
    intro t k
    refine k24 t ?_
    show Steps p.tables e below (T23.setTop (mkF m 65 #[.val (.int p0), .val (.int p1), .val (.int p2), .val (.int (v0_5 p0)), .val (.int (p1 &&& (7 : Int32))), .val (.int (p2.toInt8.toInt32)), .val (.ref b2), .unset, .unset, .unset, .unset, .unset] [])) t
    refine XS.aload X23.here hx rfl (hb hby at_65) rfl rfl ?_
    show Steps p.tables e below (T23.setTop (mkF m 67 #[.val (.int p0), .val (.int p1), .val (.int p2), .val (.int (v0_5 p0)), .val (.int (p1 &&& (7 : Int32))), .val (.int (p2.toInt8.toInt32)), .val (.ref b2), .unset, .unset, .unset, .unset, .unset] [(.ref b2)])) t
    refine XS.bipush X23.here hx rfl (hb hby at_67) ?_
    show Steps p.tables e below (T23.setTop (mkF m 69 #[.val (.int p0), .val (.int p1), .val (.int p2), .val (.int (v0_5 p0)), .val (.int (p1 &&& (7 : Int32))), .val (.int (p2.toInt8.toInt32)), .val (.ref b2), .unset, .unset, .unset, .unset, .unset] [(.int (7 : Int32)), (.ref b2)])) t
    refine XS.iload X23.here hx rfl (hb hby at_69) rfl ?_
    exact k
  obtain ⟨T26, h26, X26, e26, W26, V26, st26⟩ := own_bst X23 hx hZ e23 V23' (j := (7 : Int32)) (by decide) (by decide) (g := (mkF m 71 #[.val (.int p0), .val (.int p1), .val (.int p2), .val (.int (v0_5 p0)), .val (.int (p1 &&& (7 : Int32))), .val (.int (p2.toInt8.toInt32)), .val (.ref b2), .unset, .unset, .unset, .unset, .unset] [(.int (p2.toInt8.toInt32)), (.int (7 : Int32)), (.ref b2)])) rfl rfl (hb hby at_71)
  have V26' : own_By Z h26 b2 14 (B0_71 p2) := V26
  have N26 := Fr.snoc X26 N23 g_b2
  have k27 : own_Go p e below (s₁.setTop (entryFrame m #[(.int p0), (.int p1), (.int p2)] maxLocals)) (T26.setTop (mkF m 72 #[.val (.int p0), .val (.int p1), .val (.int p2), .val (.int (v0_5 p0)), .val (.int (p1 &&& (7 : Int32))), .val (.int (p2.toInt8.toInt32)), .val (.ref b2), .unset, .unset, .unset, .unset, .unset] [])) := fun t k => k25 t (st26 t k)
  have k28 : own_Go p e below (s₁.setTop (entryFrame m #[(.int p0), (.int p1), (.int p2)] maxLocals)) (T26.setTop (mkF m 78 #[.val (.int p0), .val (.int p1), .val (.int p2), .val (.int (v0_5 p0)), .val (.int (p1 &&& (7 : Int32))), .val (.int (p2.toInt8.toInt32)), .val (.ref b2), .unset, .unset, .unset, .unset, .unset] [(.int (p2.toInt8.toInt32)), (.int (8 : Int32)), (.ref b2)])) := by
    intro t k
    refine k27 t ?_
    show Steps p.tables e below (T26.setTop (mkF m 72 #[.val (.int p0), .val (.int p1), .val (.int p2), .val (.int (v0_5 p0)), .val (.int (p1 &&& (7 : Int32))), .val (.int (p2.toInt8.toInt32)), .val (.ref b2), .unset, .unset, .unset, .unset, .unset] [])) t
    refine XS.aload X26.here hx rfl (hb hby at_72) rfl rfl ?_
    show Steps p.tables e below (T26.setTop (mkF m 74 #[.val (.int p0), .val (.int p1), .val (.int p2), .val (.int (v0_5 p0)), .val (.int (p1 &&& (7 : Int32))), .val (.int (p2.toInt8.toInt32)), .val (.ref b2), .unset, .unset, .unset, .unset, .unset] [(.ref b2)])) t
    refine XS.bipush X26.here hx rfl (hb hby at_74) ?_
    show Steps p.tables e below (T26.setTop (mkF m 76 #[.val (.int p0), .val (.int p1), .val (.int p2), .val (.int (v0_5 p0)), .val (.int (p1 &&& (7 : Int32))), .val (.int (p2.toInt8.toInt32)), .val (.ref b2), .unset, .unset, .unset, .unset, .unset] [(.int (8 : Int32)), (.ref b2)])) t
    refine XS.iload X26.here hx rfl (hb hby at_76) rfl ?_
    exact k
  obtain ⟨T29, h29, X29, e29, W29, V29, st29⟩ := own_bst X26 hx hZ e26 V26' (j := (8 : Int32)) (by decide) (by decide) (g := (mkF m 78 #[.val (.int p0), .val (.int p1), .val (.int p2), .val (.int (v0_5 p0)), .val (.int (p1 &&& (7 : Int32))), .val (.int (p2.toInt8.toInt32)), .val (.ref b2), .unset, .unset, .unset, .unset, .unset] [(.int (p2.toInt8.toInt32)), (.int (8 : Int32)), (.ref b2)])) rfl rfl (hb hby at_78)
  have V29' : own_By Z h29 b2 14 (B0_78 p2) := V29
  have N29 := Fr.snoc X29 N26 g_b2
  have k30 : own_Go p e below (s₁.setTop (entryFrame m #[(.int p0), (.int p1), (.int p2)] maxLocals)) (T29.setTop (mkF m 79 #[.val (.int p0), .val (.int p1), .val (.int p2), .val (.int (v0_5 p0)), .val (.int (p1 &&& (7 : Int32))), .val (.int (p2.toInt8.toInt32)), .val (.ref b2), .unset, .unset, .unset, .unset, .unset] [])) := fun t k => k28 t (st29 t k)
  have k31 : own_Go p e below (s₁.setTop (entryFrame m #[(.int p0), (.int p1), (.int p2)] maxLocals)) (T29.setTop (mkF m 85 #[.val (.int p0), .val (.int p1), .val (.int p2), .val (.int (v0_5 p0)), .val (.int (p1 &&& (7 : Int32))), .val (.int (p2.toInt8.toInt32)), .val (.ref b2), .unset, .unset, .unset, .unset, .unset] [(.int (p2.toInt8.toInt32)), (.int (9 : Int32)), (.ref b2)])) := by
    intro t k
    refine k30 t ?_
    show Steps p.tables e below (T29.setTop (mkF m 79 #[.val (.int p0), .val (.int p1), .val (.int p2), .val (.int (v0_5 p0)), .val (.int (p1 &&& (7 : Int32))), .val (.int (p2.toInt8.toInt32)), .val (.ref b2), .unset, .unset, .unset, .unset, .unset] [])) t
    refine XS.aload X29.here hx rfl (hb hby at_79) rfl rfl ?_
    show Steps p.tables e below (T29.setTop (mkF m 81 #[.val (.int p0), .val (.int p1), .val (.int p2), .val (.int (v0_5 p0)), .val (.int (p1 &&& (7 : Int32))), .val (.int (p2.toInt8.toInt32)), .val (.ref b2), .unset, .unset, .unset, .unset, .unset] [(.ref b2)])) t
    refine XS.bipush X29.here hx rfl (hb hby at_81) ?_
    show Steps p.tables e below (T29.setTop (mkF m 83 #[.val (.int p0), .val (.int p1), .val (.int p2), .val (.int (v0_5 p0)), .val (.int (p1 &&& (7 : Int32))), .val (.int (p2.toInt8.toInt32)), .val (.ref b2), .unset, .unset, .unset, .unset, .unset] [(.int (9 : Int32)), (.ref b2)])) t
    refine XS.iload X29.here hx rfl (hb hby at_83) rfl ?_
    exact k
  obtain ⟨T32, h32, X32, e32, W32, V32, st32⟩ := own_bst X29 hx hZ e29 V29' (j := (9 : Int32)) (by decide) (by decide) (g := (mkF m 85 #[.val (.int p0), .val (.int p1), .val (.int p2), .val (.int (v0_5 p0)), .val (.int (p1 &&& (7 : Int32))), .val (.int (p2.toInt8.toInt32)), .val (.ref b2), .unset, .unset, .unset, .unset, .unset] [(.int (p2.toInt8.toInt32)), (.int (9 : Int32)), (.ref b2)])) rfl rfl (hb hby at_85)
  have V32' : own_By Z h32 b2 14 (B0_85 p2) := V32
  have N32 := Fr.snoc X32 N29 g_b2
  have k33 : own_Go p e below (s₁.setTop (entryFrame m #[(.int p0), (.int p1), (.int p2)] maxLocals)) (T32.setTop (mkF m 86 #[.val (.int p0), .val (.int p1), .val (.int p2), .val (.int (v0_5 p0)), .val (.int (p1 &&& (7 : Int32))), .val (.int (p2.toInt8.toInt32)), .val (.ref b2), .unset, .unset, .unset, .unset, .unset] [])) := fun t k => k31 t (st32 t k)
  have k34 : own_Go p e below (s₁.setTop (entryFrame m #[(.int p0), (.int p1), (.int p2)] maxLocals)) (T32.setTop (mkF m 92 #[.val (.int p0), .val (.int p1), .val (.int p2), .val (.int (v0_5 p0)), .val (.int (p1 &&& (7 : Int32))), .val (.int (p2.toInt8.toInt32)), .val (.ref b2), .unset, .unset, .unset, .unset, .unset] [(.int (p2.toInt8.toInt32)), (.int (10 : Int32)), (.ref b2)])) := by
    intro t k
    refine k33 t ?_
    show Steps p.tables e below (T32.setTop (mkF m 86 #[.val (.int p0), .val (.int p1), .val (.int p2), .val (.int (v0_5 p0)), .val (.int (p1 &&& (7 : Int32))), .val (.int (p2.toInt8.toInt32)), .val (.ref b2), .unset, .unset, .unset, .unset, .unset] [])) t
    refine XS.aload X32.here hx rfl (hb hby at_86) rfl rfl ?_
    show Steps p.tables e below (T32.setTop (mkF m 88 #[.val (.int p0), .val (.int p1), .val (.int p2), .val (.int (v0_5 p0)), .val (.int (p1 &&& (7 : Int32))), .val (.int (p2.toInt8.toInt32)), .val (.ref b2), .unset, .unset, .unset, .unset, .unset] [(.ref b2)])) t
    refine XS.bipush X32.here hx rfl (hb hby at_88) ?_
    show Steps p.tables e below (T32.setTop (mkF m 90 #[.val (.int p0), .val (.int p1), .val (.int p2), .val (.int (v0_5 p0)), .val (.int (p1 &&& (7 : Int32))), .val (.int (p2.toInt8.toInt32)), .val (.ref b2), .unset, .unset, .unset, .unset, .unset] [(.int (10 : Int32)), (.ref b2)])) t
    refine XS.iload X32.here hx rfl (hb hby at_90) rfl ?_
    exact k
  obtain ⟨T35, h35, X35, e35, W35, V35, st35⟩ := own_bst X32 hx hZ e32 V32' (j := (10 : Int32)) (by decide) (by decide) (g := (mkF m 92 #[.val (.int p0), .val (.int p1), .val (.int p2), .val (.int (v0_5 p0)), .val (.int (p1 &&& (7 : Int32))), .val (.int (p2.toInt8.toInt32)), .val (.ref b2), .unset, .unset, .unset, .unset, .unset] [(.int (p2.toInt8.toInt32)), (.int (10 : Int32)), (.ref b2)])) rfl rfl (hb hby at_92)
  have V35' : own_By Z h35 b2 14 (B0_92 p2) := V35
  have N35 := Fr.snoc X35 N32 g_b2
  have k36 : own_Go p e below (s₁.setTop (entryFrame m #[(.int p0), (.int p1), (.int p2)] maxLocals)) (T35.setTop (mkF m 93 #[.val (.int p0), .val (.int p1), .val (.int p2), .val (.int (v0_5 p0)), .val (.int (p1 &&& (7 : Int32))), .val (.int (p2.toInt8.toInt32)), .val (.ref b2), .unset, .unset, .unset, .unset, .unset] [])) := fun t k => k34 t (st35 t k)
  have k37 : own_Go p e below (s₁.setTop (entryFrame m #[(.int p0), (.int p1), (.int p2)] maxLocals)) (T35.setTop (mkF m 99 #[.val (.int p0), .val (.int p1), .val (.int p2), .val (.int (v0_5 p0)), .val (.int (p1 &&& (7 : Int32))), .val (.int (p2.toInt8.toInt32)), .val (.ref b2), .unset, .unset, .unset, .unset, .unset] [(.int (p2.toInt8.toInt32)), (.int (11 : Int32)), (.ref b2)])) := by
    intro t k
    refine k36 t ?_
    show Steps p.tables e below (T35.setTop (mkF m 93 #[.val (.int p0), .val (.int p1), .val (.int p2), .val (.int (v0_5 p0)), .val (.int (p1 &&& (7 : Int32))), .val (.int (p2.toInt8.toInt32)), .val (.ref b2), .unset, .unset, .unset, .unset, .unset] [])) t
    refine XS.aload X35.here hx rfl (hb hby at_93) rfl rfl ?_
    show Steps p.tables e below (T35.setTop (mkF m 95 #[.val (.int p0), .val (.int p1), .val (.int p2), .val (.int (v0_5 p0)), .val (.int (p1 &&& (7 : Int32))), .val (.int (p2.toInt8.toInt32)), .val (.ref b2), .unset, .unset, .unset, .unset, .unset] [(.ref b2)])) t
    refine XS.bipush X35.here hx rfl (hb hby at_95) ?_
    show Steps p.tables e below (T35.setTop (mkF m 97 #[.val (.int p0), .val (.int p1), .val (.int p2), .val (.int (v0_5 p0)), .val (.int (p1 &&& (7 : Int32))), .val (.int (p2.toInt8.toInt32)), .val (.ref b2), .unset, .unset, .unset, .unset, .unset] [(.int (11 : Int32)), (.ref b2)])) t
    refine XS.iload X35.here hx rfl (hb hby at_97) rfl ?_
    exact k
  obtain ⟨T38, h38, X38, e38, W38, V38, st38⟩ := own_bst X35 hx hZ e35 V35' (j := (11 : Int32)) (by decide) (by decide) (g := (mkF m 99 #[.val (.int p0), .val (.int p1), .val (.int p2), .val (.int (v0_5 p0)), .val (.int (p1 &&& (7 : Int32))), .val (.int (p2.toInt8.toInt32)), .val (.ref b2), .unset, .unset, .unset, .unset, .unset] [(.int (p2.toInt8.toInt32)), (.int (11 : Int32)), (.ref b2)])) rfl rfl (hb hby at_99)
  have V38' : own_By Z h38 b2 14 (B0_99 p2) := V38
  have N38 := Fr.snoc X38 N35 g_b2
  have k39 : own_Go p e below (s₁.setTop (entryFrame m #[(.int p0), (.int p1), (.int p2)] maxLocals)) (T38.setTop (mkF m 100 #[.val (.int p0), .val (.int p1), .val (.int p2), .val (.int (v0_5 p0)), .val (.int (p1 &&& (7 : Int32))), .val (.int (p2.toInt8.toInt32)), .val (.ref b2), .unset, .unset, .unset, .unset, .unset] [])) := fun t k => k37 t (st38 t k)
  have k40 : own_Go p e below (s₁.setTop (entryFrame m #[(.int p0), (.int p1), (.int p2)] maxLocals)) (T38.setTop (mkF m 106 #[.val (.int p0), .val (.int p1), .val (.int p2), .val (.int (v0_5 p0)), .val (.int (p1 &&& (7 : Int32))), .val (.int (p2.toInt8.toInt32)), .val (.ref b2), .unset, .unset, .unset, .unset, .unset] [(.int (p2.toInt8.toInt32)), (.int (12 : Int32)), (.ref b2)])) := by
    intro t k
    refine k39 t ?_
    show Steps p.tables e below (T38.setTop (mkF m 100 #[.val (.int p0), .val (.int p1), .val (.int p2), .val (.int (v0_5 p0)), .val (.int (p1 &&& (7 : Int32))), .val (.int (p2.toInt8.toInt32)), .val (.ref b2), .unset, .unset, .unset, .unset, .unset] [])) t
    refine XS.aload X38.here hx rfl (hb hby at_100) rfl rfl ?_
    show Steps p.tables e below (T38.setTop (mkF m 102 #[.val (.int p0), .val (.int p1), .val (.int p2), .val (.int (v0_5 p0)), .val (.int (p1 &&& (7 : Int32))), .val (.int (p2.toInt8.toInt32)), .val (.ref b2), .unset, .unset, .unset, .unset, .unset] [(.ref b2)])) t
    refine XS.bipush X38.here hx rfl (hb hby at_102) ?_
    show Steps p.tables e below (T38.setTop (mkF m 104 #[.val (.int p0), .val (.int p1), .val (.int p2), .val (.int (v0_5 p0)), .val (.int (p1 &&& (7 : Int32))), .val (.int (p2.toInt8.toInt32)), .val (.ref b2), .unset, .unset, .unset, .unset, .unset] [(.int (12 : Int32)), (.ref b2)])) t
    refine XS.iload X38.here hx rfl (hb hby at_104) rfl ?_
    exact k
  obtain ⟨T41, h41, X41, e41, W41, V41, st41⟩ := own_bst X38 hx hZ e38 V38' (j := (12 : Int32)) (by decide) (by decide) (g := (mkF m 106 #[.val (.int p0), .val (.int p1), .val (.int p2), .val (.int (v0_5 p0)), .val (.int (p1 &&& (7 : Int32))), .val (.int (p2.toInt8.toInt32)), .val (.ref b2), .unset, .unset, .unset, .unset, .unset] [(.int (p2.toInt8.toInt32)), (.int (12 : Int32)), (.ref b2)])) rfl rfl (hb hby at_106)
  have V41' : own_By Z h41 b2 14 (B0_106 p2) := V41
  have N41 := Fr.snoc X41 N38 g_b2
  have k42 : own_Go p e below (s₁.setTop (entryFrame m #[(.int p0), (.int p1), (.int p2)] maxLocals)) (T41.setTop (mkF m 107 #[.val (.int p0), .val (.int p1), .val (.int p2), .val (.int (v0_5 p0)), .val (.int (p1 &&& (7 : Int32))), .val (.int (p2.toInt8.toInt32)), .val (.ref b2), .unset, .unset, .unset, .unset, .unset] [])) := fun t k => k40 t (st41 t k)
  have k43 : own_Go p e below (s₁.setTop (entryFrame m #[(.int p0), (.int p1), (.int p2)] maxLocals)) (T41.setTop (mkF m 113 #[.val (.int p0), .val (.int p1), .val (.int p2), .val (.int (v0_5 p0)), .val (.int (p1 &&& (7 : Int32))), .val (.int (p2.toInt8.toInt32)), .val (.ref b2), .unset, .unset, .unset, .unset, .unset] [(.int (p2.toInt8.toInt32)), (.int (13 : Int32)), (.ref b2)])) := by
    intro t k
    refine k42 t ?_
    show Steps p.tables e below (T41.setTop (mkF m 107 #[.val (.int p0), .val (.int p1), .val (.int p2), .val (.int (v0_5 p0)), .val (.int (p1 &&& (7 : Int32))), .val (.int (p2.toInt8.toInt32)), .val (.ref b2), .unset, .unset, .unset, .unset, .unset] [])) t
    refine XS.aload X41.here hx rfl (hb hby at_107) rfl rfl ?_
    show Steps p.tables e below (T41.setTop (mkF m 109 #[.val (.int p0), .val (.int p1), .val (.int p2), .val (.int (v0_5 p0)), .val (.int (p1 &&& (7 : Int32))), .val (.int (p2.toInt8.toInt32)), .val (.ref b2), .unset, .unset, .unset, .unset, .unset] [(.ref b2)])) t
    refine XS.bipush X41.here hx rfl (hb hby at_109) ?_
    show Steps p.tables e below (T41.setTop (mkF m 111 #[.val (.int p0), .val (.int p1), .val (.int p2), .val (.int (v0_5 p0)), .val (.int (p1 &&& (7 : Int32))), .val (.int (p2.toInt8.toInt32)), .val (.ref b2), .unset, .unset, .unset, .unset, .unset] [(.int (13 : Int32)), (.ref b2)])) t
    refine XS.iload X41.here hx rfl (hb hby at_111) rfl ?_
    exact k
  obtain ⟨T44, h44, X44, e44, W44, V44, st44⟩ := own_bst X41 hx hZ e41 V41' (j := (13 : Int32)) (by decide) (by decide) (g := (mkF m 113 #[.val (.int p0), .val (.int p1), .val (.int p2), .val (.int (v0_5 p0)), .val (.int (p1 &&& (7 : Int32))), .val (.int (p2.toInt8.toInt32)), .val (.ref b2), .unset, .unset, .unset, .unset, .unset] [(.int (p2.toInt8.toInt32)), (.int (13 : Int32)), (.ref b2)])) rfl rfl (hb hby at_113)
  have V44' : own_By Z h44 b2 14 (B0_113 p2) := V44
  have N44 := Fr.snoc X44 N41 g_b2
  have k45 : own_Go p e below (s₁.setTop (entryFrame m #[(.int p0), (.int p1), (.int p2)] maxLocals)) (T44.setTop (mkF m 114 #[.val (.int p0), .val (.int p1), .val (.int p2), .val (.int (v0_5 p0)), .val (.int (p1 &&& (7 : Int32))), .val (.int (p2.toInt8.toInt32)), .val (.ref b2), .unset, .unset, .unset, .unset, .unset] [])) := fun t k => k43 t (st44 t k)
  have k46 : own_Go p e below (s₁.setTop (entryFrame m #[(.int p0), (.int p1), (.int p2)] maxLocals)) (T44.setTop (mkF m 116 #[.val (.int p0), .val (.int p1), .val (.int p2), .val (.int (v0_5 p0)), .val (.int (p1 &&& (7 : Int32))), .val (.int (p2.toInt8.toInt32)), .val (.ref b2), .unset, .unset, .unset, .unset, .unset] [(.int (6 : Int32))])) := by
    intro t k
    refine k45 t ?_
    show Steps p.tables e below (T44.setTop (mkF m 114 #[.val (.int p0), .val (.int p1), .val (.int p2), .val (.int (v0_5 p0)), .val (.int (p1 &&& (7 : Int32))), .val (.int (p2.toInt8.toInt32)), .val (.ref b2), .unset, .unset, .unset, .unset, .unset] [])) t
    refine XS.bipush X44.here hx rfl (hb hby at_114) ?_
    exact k
  obtain ⟨T47, h47, k'47, X47, e47, E47, A47, st47⟩ := newP X44 hx hZ (hw _ (List.mem_of_getElem? (i := 1) rfl)) e44 (g := (mkF m 116 #[.val (.int p0), .val (.int p1), .val (.int p2), .val (.int (v0_5 p0)), .val (.int (p1 &&& (7 : Int32))), .val (.int (p2.toInt8.toInt32)), .val (.ref b2), .unset, .unset, .unset, .unset, .unset] [(.int (6 : Int32))])) rfl (hb hby at_116) rfl (by decide) (cap := 6) (by decide) (by decide) (by decide) (by decide)
  obtain ⟨b47, g47⟩ : ∃ z, z = h44.size := ⟨_, rfl⟩
  rw [← g47] at A47 st47
  have V47 : own_By Z h47 b47 6 (fun _ => 0) := own_By.new A47 rfl
  have g_b47 : n0 ≤ b47 := Nat.le_trans (Nat.le_trans (Nat.le_trans (Nat.le_trans (Nat.le_trans (Nat.le_trans (Nat.le_trans (Nat.le_trans (Nat.le_trans (Nat.le_trans (Nat.le_trans (Nat.le_trans (Nat.le_trans (Nat.le_trans (Nat.le_trans (Nat.le_trans Z0 E2.1) (Keep.of_wr W5).1) (Keep.of_wr W8).1) (Keep.of_wr W11).1) (Keep.of_wr W14).1) (Keep.of_wr W17).1) (Keep.of_wr W20).1) (Keep.of_wr W23).1) (Keep.of_wr W26).1) (Keep.of_wr W29).1) (Keep.of_wr W32).1) (Keep.of_wr W35).1) (Keep.of_wr W38).1) (Keep.of_wr W41).1) (Keep.of_wr W44).1) (Nat.le_of_eq g47.symm)
  have k48 : own_Go p e below (s₁.setTop (entryFrame m #[(.int p0), (.int p1), (.int p2)] maxLocals)) (T47.setTop (mkF m 118 #[.val (.int p0), .val (.int p1), .val (.int p2), .val (.int (v0_5 p0)), .val (.int (p1 &&& (7 : Int32))), .val (.int (p2.toInt8.toInt32)), .val (.ref b2), .unset, .unset, .unset, .unset, .unset] [(.ref b47)])) := fun t k => k46 t (st47 t k)
  have k49 : own_Go p e below (s₁.setTop (entryFrame m #[(.int p0), (.int p1), (.int p2)] maxLocals)) (T47.setTop (mkF m 127 #[.val (.int p0), .val (.int p1), .val (.int p2), .val (.int (v0_5 p0)), .val (.int (p1 &&& (7 : Int32))), .val (.int (p2.toInt8.toInt32)), .val (.ref b2), .val (.ref b47), .unset, .val (.int (v0_5 p0)), .unset, .unset] [(.int (34 : Int32)), (.int (v0_5 p0))])) := by
    intro t k
    refine k48 t ?_
    show Steps p.tables e below (T47.setTop (mkF m 118 #[.val (.int p0), .val (.int p1), .val (.int p2), .val (.int (v0_5 p0)), .val (.int (p1 &&& (7 : Int32))), .val (.int (p2.toInt8.toInt32)), .val (.ref b2), .unset, .unset, .unset, .unset, .unset] [(.ref b47)])) t
    refine XS.astore X47.here hx rfl (hb hby at_118) rfl rfl (l' := #[.val (.int p0), .val (.int p1), .val (.int p2), .val (.int (v0_5 p0)), .val (.int (p1 &&& (7 : Int32))), .val (.int (p2.toInt8.toInt32)), .val (.ref b2), .val (.ref b47), .unset, .unset, .unset, .unset]) rfl ?_
    show Steps p.tables e below (T47.setTop (mkF m 120 #[.val (.int p0), .val (.int p1), .val (.int p2), .val (.int (v0_5 p0)), .val (.int (p1 &&& (7 : Int32))), .val (.int (p2.toInt8.toInt32)), .val (.ref b2), .val (.ref b47), .unset, .unset, .unset, .unset] [])) t
    refine XS.iloadN X47.here hx rfl (hb hby at_120) rfl ?_
    show Steps p.tables e below (T47.setTop (mkF m 121 #[.val (.int p0), .val (.int p1), .val (.int p2), .val (.int (v0_5 p0)), .val (.int (p1 &&& (7 : Int32))), .val (.int (p2.toInt8.toInt32)), .val (.ref b2), .val (.ref b47), .unset, .unset, .unset, .unset] [(.int (v0_5 p0))])) t
    refine XS.istore X47.here hx rfl (hb hby at_121) rfl (l' := #[.val (.int p0), .val (.int p1), .val (.int p2), .val (.int (v0_5 p0)), .val (.int (p1 &&& (7 : Int32))), .val (.int (p2.toInt8.toInt32)), .val (.ref b2), .val (.ref b47), .unset, .val (.int (v0_5 p0)), .unset, .unset]) rfl ?_
    show Steps p.tables e below (T47.setTop (mkF m 123 #[.val (.int p0), .val (.int p1), .val (.int p2), .val (.int (v0_5 p0)), .val (.int (p1 &&& (7 : Int32))), .val (.int (p2.toInt8.toInt32)), .val (.ref b2), .val (.ref b47), .unset, .val (.int (v0_5 p0)), .unset, .unset] [])) t
    refine XS.iload X47.here hx rfl (hb hby at_123) rfl ?_
    show Steps p.tables e below (T47.setTop (mkF m 125 #[.val (.int p0), .val (.int p1), .val (.int p2), .val (.int (v0_5 p0)), .val (.int (p1 &&& (7 : Int32))), .val (.int (p2.toInt8.toInt32)), .val (.ref b2), .val (.ref b47), .unset, .val (.int (v0_5 p0)), .unset, .unset] [(.int (v0_5 p0))])) t
    refine XS.bipush X47.here hx rfl (hb hby at_125) ?_
    exact k
  have ne_50_b2_b47 : b2 ≠ b47 := (Nat.ne_of_lt (Nat.lt_of_lt_of_le V44'.lt (Nat.le_of_eq g47.symm)))
  have ne_50_b2_wH : b2 ≠ wH := (Ne.symm (Nat.ne_of_lt (Nat.lt_of_lt_of_le V_H.lt (Nat.le_of_eq g2.symm))))
  have ne_50_b47_wH : b47 ≠ wH := (Ne.symm (Nat.ne_of_lt (Nat.lt_of_lt_of_le (((((((((((((((V_H.ext E2).other W5 (Nat.ne_of_lt (Nat.lt_of_lt_of_le V_H.lt (Nat.le_of_eq g2.symm)))).other W8 (Nat.ne_of_lt (Nat.lt_of_lt_of_le V_H.lt (Nat.le_of_eq g2.symm)))).other W11 (Nat.ne_of_lt (Nat.lt_of_lt_of_le V_H.lt (Nat.le_of_eq g2.symm)))).other W14 (Nat.ne_of_lt (Nat.lt_of_lt_of_le V_H.lt (Nat.le_of_eq g2.symm)))).other W17 (Nat.ne_of_lt (Nat.lt_of_lt_of_le V_H.lt (Nat.le_of_eq g2.symm)))).other W20 (Nat.ne_of_lt (Nat.lt_of_lt_of_le V_H.lt (Nat.le_of_eq g2.symm)))).other W23 (Nat.ne_of_lt (Nat.lt_of_lt_of_le V_H.lt (Nat.le_of_eq g2.symm)))).other W26 (Nat.ne_of_lt (Nat.lt_of_lt_of_le V_H.lt (Nat.le_of_eq g2.symm)))).other W29 (Nat.ne_of_lt (Nat.lt_of_lt_of_le V_H.lt (Nat.le_of_eq g2.symm)))).other W32 (Nat.ne_of_lt (Nat.lt_of_lt_of_le V_H.lt (Nat.le_of_eq g2.symm)))).other W35 (Nat.ne_of_lt (Nat.lt_of_lt_of_le V_H.lt (Nat.le_of_eq g2.symm)))).other W38 (Nat.ne_of_lt (Nat.lt_of_lt_of_le V_H.lt (Nat.le_of_eq g2.symm)))).other W41 (Nat.ne_of_lt (Nat.lt_of_lt_of_le V_H.lt (Nat.le_of_eq g2.symm)))).other W44 (Nat.ne_of_lt (Nat.lt_of_lt_of_le V_H.lt (Nat.le_of_eq g2.symm)))).lt (Nat.le_of_eq g47.symm))))
  obtain ⟨T50, L50, h50, X50, e50, N50, c50_0, c50_1, c50_2, c50_3, Zs50, k50⟩ : ∃ (T50 : State) (L50 : List Loc) (h50 : Heap), Stand p l e room_1 s m #[(.int p0), (.int p1), (.int p2)] below meth c T50 L50 2 20 ∧ T50.heap = h50 ∧ Fr n0 L50 ∧ own_By Z h50 wH 16 HX ∧ Sta Z h50 "com/example/segmentry/segmentry/io/JsonText" "HEX_DIGITS" "[B" (.ref wH) ∧ own_By Z h50 b2 14 (B0_113 p2) ∧ own_By Z h50 b47 6 (m0_280_b47 p0) ∧ n0 ≤ h50.size ∧ own_Go p e below (s₁.setTop (entryFrame m #[(.int p0), (.int p1), (.int p2)] maxLocals)) (T50.setTop (mkF m 280 #[.val (.int p0), .val (.int p1), .val (.int p2), .val (.int (v0_5 p0)), .val (.int (p1 &&& (7 : Int32))), .val (.int (p2.toInt8.toInt32)), .val (.ref b2), .val (.ref b47), .val (.int (m0_280_l8 p0)), .val (.int (v0_5 p0)), .unset, .unset] [])) := by
    by_cases hc127_51 : (v0_5 p0) = (34 : Int32)
    · have k52 : own_Go p e below (s₁.setTop (entryFrame m #[(.int p0), (.int p1), (.int p2)] maxLocals)) (T47.setTop (mkF m 145 #[.val (.int p0), .val (.int p1), .val (.int p2), .val (.int (v0_5 p0)), .val (.int (p1 &&& (7 : Int32))), .val (.int (p2.toInt8.toInt32)), .val (.ref b2), .val (.ref b47), .val (.int (2 : Int32)), .val (.int (v0_5 p0)), .unset, .unset] [(.int (92 : Int32)), (.int (0 : Int32)), (.ref b47)])) := by
        intro t k
        refine k49 t ?_
        show Steps p.tables e below (T47.setTop (mkF m 127 #[.val (.int p0), .val (.int p1), .val (.int p2), .val (.int (v0_5 p0)), .val (.int (p1 &&& (7 : Int32))), .val (.int (p2.toInt8.toInt32)), .val (.ref b2), .val (.ref b47), .unset, .val (.int (v0_5 p0)), .unset, .unset] [(.int (34 : Int32)), (.int (v0_5 p0))])) t
        refine XS.icmpYes X47.here hx rfl (pc0 := 127) (pc' := 137) rfl (hb hby at_127) rfl (teq hc127_51).1 (by decide) (by decide) ?_
        show Steps p.tables e below (T47.setTop (mkF m 137 #[.val (.int p0), .val (.int p1), .val (.int p2), .val (.int (v0_5 p0)), .val (.int (p1 &&& (7 : Int32))), .val (.int (p2.toInt8.toInt32)), .val (.ref b2), .val (.ref b47), .unset, .val (.int (v0_5 p0)), .unset, .unset] [])) t
        refine XS.iconst X47.here hx rfl (hb hby at_137) ?_
        show Steps p.tables e below (T47.setTop (mkF m 138 #[.val (.int p0), .val (.int p1), .val (.int p2), .val (.int (v0_5 p0)), .val (.int (p1 &&& (7 : Int32))), .val (.int (p2.toInt8.toInt32)), .val (.ref b2), .val (.ref b47), .unset, .val (.int (v0_5 p0)), .unset, .unset] [(.int (2 : Int32))])) t
        refine XS.istore X47.here hx rfl (hb hby at_138) rfl (l' := #[.val (.int p0), .val (.int p1), .val (.int p2), .val (.int (v0_5 p0)), .val (.int (p1 &&& (7 : Int32))), .val (.int (p2.toInt8.toInt32)), .val (.ref b2), .val (.ref b47), .val (.int (2 : Int32)), .val (.int (v0_5 p0)), .unset, .unset]) rfl ?_
        show Steps p.tables e below (T47.setTop (mkF m 140 #[.val (.int p0), .val (.int p1), .val (.int p2), .val (.int (v0_5 p0)), .val (.int (p1 &&& (7 : Int32))), .val (.int (p2.toInt8.toInt32)), .val (.ref b2), .val (.ref b47), .val (.int (2 : Int32)), .val (.int (v0_5 p0)), .unset, .unset] [])) t
        refine XS.aload X47.here hx rfl (hb hby at_140) rfl rfl ?_
        show Steps p.tables e below (T47.setTop (mkF m 142 #[.val (.int p0), .val (.int p1), .val (.int p2), .val (.int (v0_5 p0)), .val (.int (p1 &&& (7 : Int32))), .val (.int (p2.toInt8.toInt32)), .val (.ref b2), .val (.ref b47), .val (.int (2 : Int32)), .val (.int (v0_5 p0)), .unset, .unset] [(.ref b47)])) t
        refine XS.iconst X47.here hx rfl (hb hby at_142) ?_
        show Steps p.tables e below (T47.setTop (mkF m 143 #[.val (.int p0), .val (.int p1), .val (.int p2), .val (.int (v0_5 p0)), .val (.int (p1 &&& (7 : Int32))), .val (.int (p2.toInt8.toInt32)), .val (.ref b2), .val (.ref b47), .val (.int (2 : Int32)), .val (.int (v0_5 p0)), .unset, .unset] [(.int (0 : Int32)), (.ref b47)])) t
        refine XS.bipush X47.here hx rfl (hb hby at_143) ?_
        exact k
      obtain ⟨T53, h53, X53, e53, W53, V53, st53⟩ := own_bst X47 hx hZ e47 V47 (j := (0 : Int32)) (by decide) (by decide) (g := (mkF m 145 #[.val (.int p0), .val (.int p1), .val (.int p2), .val (.int (v0_5 p0)), .val (.int (p1 &&& (7 : Int32))), .val (.int (p2.toInt8.toInt32)), .val (.ref b2), .val (.ref b47), .val (.int (2 : Int32)), .val (.int (v0_5 p0)), .unset, .unset] [(.int (92 : Int32)), (.int (0 : Int32)), (.ref b47)])) rfl rfl (hb hby at_145)
      have V53' : own_By Z h53 b47 6 B0_145 := V53
      have N53 := Fr.snoc X53 N44 g_b47
      have k54 : own_Go p e below (s₁.setTop (entryFrame m #[(.int p0), (.int p1), (.int p2)] maxLocals)) (T53.setTop (mkF m 146 #[.val (.int p0), .val (.int p1), .val (.int p2), .val (.int (v0_5 p0)), .val (.int (p1 &&& (7 : Int32))), .val (.int (p2.toInt8.toInt32)), .val (.ref b2), .val (.ref b47), .val (.int (2 : Int32)), .val (.int (v0_5 p0)), .unset, .unset] [])) := fun t k => k52 t (st53 t k)
      have k55 : own_Go p e below (s₁.setTop (entryFrame m #[(.int p0), (.int p1), (.int p2)] maxLocals)) (T53.setTop (mkF m 152 #[.val (.int p0), .val (.int p1), .val (.int p2), .val (.int (v0_5 p0)), .val (.int (p1 &&& (7 : Int32))), .val (.int (p2.toInt8.toInt32)), .val (.ref b2), .val (.ref b47), .val (.int (2 : Int32)), .val (.int (v0_5 p0)), .unset, .unset] [(.int ((v0_5 p0).toInt8.toInt32)), (.int (1 : Int32)), (.ref b47)])) := by
        intro t k
        refine k54 t ?_
        show Steps p.tables e below (T53.setTop (mkF m 146 #[.val (.int p0), .val (.int p1), .val (.int p2), .val (.int (v0_5 p0)), .val (.int (p1 &&& (7 : Int32))), .val (.int (p2.toInt8.toInt32)), .val (.ref b2), .val (.ref b47), .val (.int (2 : Int32)), .val (.int (v0_5 p0)), .unset, .unset] [])) t
        refine XS.aload X53.here hx rfl (hb hby at_146) rfl rfl ?_
        show Steps p.tables e below (T53.setTop (mkF m 148 #[.val (.int p0), .val (.int p1), .val (.int p2), .val (.int (v0_5 p0)), .val (.int (p1 &&& (7 : Int32))), .val (.int (p2.toInt8.toInt32)), .val (.ref b2), .val (.ref b47), .val (.int (2 : Int32)), .val (.int (v0_5 p0)), .unset, .unset] [(.ref b47)])) t
        refine XS.iconst X53.here hx rfl (hb hby at_148) ?_
        show Steps p.tables e below (T53.setTop (mkF m 149 #[.val (.int p0), .val (.int p1), .val (.int p2), .val (.int (v0_5 p0)), .val (.int (p1 &&& (7 : Int32))), .val (.int (p2.toInt8.toInt32)), .val (.ref b2), .val (.ref b47), .val (.int (2 : Int32)), .val (.int (v0_5 p0)), .unset, .unset] [(.int (1 : Int32)), (.ref b47)])) t
        refine XS.iload X53.here hx rfl (hb hby at_149) rfl ?_
        show Steps p.tables e below (T53.setTop (mkF m 151 #[.val (.int p0), .val (.int p1), .val (.int p2), .val (.int (v0_5 p0)), .val (.int (p1 &&& (7 : Int32))), .val (.int (p2.toInt8.toInt32)), .val (.ref b2), .val (.ref b47), .val (.int (2 : Int32)), .val (.int (v0_5 p0)), .unset, .unset] [(.int (v0_5 p0)), (.int (1 : Int32)), (.ref b47)])) t
        refine XS.i2b X53.here hx rfl (hb hby at_151) rfl ?_
        exact k
      obtain ⟨T56, h56, X56, e56, W56, V56, st56⟩ := own_bst X53 hx hZ e53 V53' (j := (1 : Int32)) (by decide) (by decide) (g := (mkF m 152 #[.val (.int p0), .val (.int p1), .val (.int p2), .val (.int (v0_5 p0)), .val (.int (p1 &&& (7 : Int32))), .val (.int (p2.toInt8.toInt32)), .val (.ref b2), .val (.ref b47), .val (.int (2 : Int32)), .val (.int (v0_5 p0)), .unset, .unset] [(.int ((v0_5 p0).toInt8.toInt32)), (.int (1 : Int32)), (.ref b47)])) rfl rfl (hb hby at_152)
      have V56' : own_By Z h56 b47 6 (B0_152 p0) := V56
      have N56 := Fr.snoc X56 N53 g_b47
      have k57 : own_Go p e below (s₁.setTop (entryFrame m #[(.int p0), (.int p1), (.int p2)] maxLocals)) (T56.setTop (mkF m 153 #[.val (.int p0), .val (.int p1), .val (.int p2), .val (.int (v0_5 p0)), .val (.int (p1 &&& (7 : Int32))), .val (.int (p2.toInt8.toInt32)), .val (.ref b2), .val (.ref b47), .val (.int (2 : Int32)), .val (.int (v0_5 p0)), .unset, .unset] [])) := fun t k => k55 t (st56 t k)
      have k58 : own_Go p e below (s₁.setTop (entryFrame m #[(.int p0), (.int p1), (.int p2)] maxLocals)) (T56.setTop (mkF m 280 #[.val (.int p0), .val (.int p1), .val (.int p2), .val (.int (v0_5 p0)), .val (.int (p1 &&& (7 : Int32))), .val (.int (p2.toInt8.toInt32)), .val (.ref b2), .val (.ref b47), .val (.int (2 : Int32)), .val (.int (v0_5 p0)), .unset, .unset] [])) := by
        intro t k
        refine k57 t ?_
        show Steps p.tables e below (T56.setTop (mkF m 153 #[.val (.int p0), .val (.int p1), .val (.int p2), .val (.int (v0_5 p0)), .val (.int (p1 &&& (7 : Int32))), .val (.int (p2.toInt8.toInt32)), .val (.ref b2), .val (.ref b47), .val (.int (2 : Int32)), .val (.int (v0_5 p0)), .unset, .unset] [])) t
        refine XS.goto X56.here hx rfl (pc0 := 153) (pc' := 280) rfl (hb hby at_153) (by decide) (by decide) ?_
        exact k
      exact ⟨_, _, _, X56, e56, N56, ((((((((((((((((((V_H.ext E2).other W5 (Nat.ne_of_lt (Nat.lt_of_lt_of_le V_H.lt (Nat.le_of_eq g2.symm)))).other W8 (Nat.ne_of_lt (Nat.lt_of_lt_of_le V_H.lt (Nat.le_of_eq g2.symm)))).other W11 (Nat.ne_of_lt (Nat.lt_of_lt_of_le V_H.lt (Nat.le_of_eq g2.symm)))).other W14 (Nat.ne_of_lt (Nat.lt_of_lt_of_le V_H.lt (Nat.le_of_eq g2.symm)))).other W17 (Nat.ne_of_lt (Nat.lt_of_lt_of_le V_H.lt (Nat.le_of_eq g2.symm)))).other W20 (Nat.ne_of_lt (Nat.lt_of_lt_of_le V_H.lt (Nat.le_of_eq g2.symm)))).other W23 (Nat.ne_of_lt (Nat.lt_of_lt_of_le V_H.lt (Nat.le_of_eq g2.symm)))).other W26 (Nat.ne_of_lt (Nat.lt_of_lt_of_le V_H.lt (Nat.le_of_eq g2.symm)))).other W29 (Nat.ne_of_lt (Nat.lt_of_lt_of_le V_H.lt (Nat.le_of_eq g2.symm)))).other W32 (Nat.ne_of_lt (Nat.lt_of_lt_of_le V_H.lt (Nat.le_of_eq g2.symm)))).other W35 (Nat.ne_of_lt (Nat.lt_of_lt_of_le V_H.lt (Nat.le_of_eq g2.symm)))).other W38 (Nat.ne_of_lt (Nat.lt_of_lt_of_le V_H.lt (Nat.le_of_eq g2.symm)))).other W41 (Nat.ne_of_lt (Nat.lt_of_lt_of_le V_H.lt (Nat.le_of_eq g2.symm)))).other W44 (Nat.ne_of_lt (Nat.lt_of_lt_of_le V_H.lt (Nat.le_of_eq g2.symm)))).ext E47).other W53 (Nat.ne_of_lt (Nat.lt_of_lt_of_le (((((((((((((((V_H.ext E2).other W5 (Nat.ne_of_lt (Nat.lt_of_lt_of_le V_H.lt (Nat.le_of_eq g2.symm)))).other W8 (Nat.ne_of_lt (Nat.lt_of_lt_of_le V_H.lt (Nat.le_of_eq g2.symm)))).other W11 (Nat.ne_of_lt (Nat.lt_of_lt_of_le V_H.lt (Nat.le_of_eq g2.symm)))).other W14 (Nat.ne_of_lt (Nat.lt_of_lt_of_le V_H.lt (Nat.le_of_eq g2.symm)))).other W17 (Nat.ne_of_lt (Nat.lt_of_lt_of_le V_H.lt (Nat.le_of_eq g2.symm)))).other W20 (Nat.ne_of_lt (Nat.lt_of_lt_of_le V_H.lt (Nat.le_of_eq g2.symm)))).other W23 (Nat.ne_of_lt (Nat.lt_of_lt_of_le V_H.lt (Nat.le_of_eq g2.symm)))).other W26 (Nat.ne_of_lt (Nat.lt_of_lt_of_le V_H.lt (Nat.le_of_eq g2.symm)))).other W29 (Nat.ne_of_lt (Nat.lt_of_lt_of_le V_H.lt (Nat.le_of_eq g2.symm)))).other W32 (Nat.ne_of_lt (Nat.lt_of_lt_of_le V_H.lt (Nat.le_of_eq g2.symm)))).other W35 (Nat.ne_of_lt (Nat.lt_of_lt_of_le V_H.lt (Nat.le_of_eq g2.symm)))).other W38 (Nat.ne_of_lt (Nat.lt_of_lt_of_le V_H.lt (Nat.le_of_eq g2.symm)))).other W41 (Nat.ne_of_lt (Nat.lt_of_lt_of_le V_H.lt (Nat.le_of_eq g2.symm)))).other W44 (Nat.ne_of_lt (Nat.lt_of_lt_of_le V_H.lt (Nat.le_of_eq g2.symm)))).lt (Nat.le_of_eq g47.symm)))).other W56 (Nat.ne_of_lt (Nat.lt_of_lt_of_le (((((((((((((((V_H.ext E2).other W5 (Nat.ne_of_lt (Nat.lt_of_lt_of_le V_H.lt (Nat.le_of_eq g2.symm)))).other W8 (Nat.ne_of_lt (Nat.lt_of_lt_of_le V_H.lt (Nat.le_of_eq g2.symm)))).other W11 (Nat.ne_of_lt (Nat.lt_of_lt_of_le V_H.lt (Nat.le_of_eq g2.symm)))).other W14 (Nat.ne_of_lt (Nat.lt_of_lt_of_le V_H.lt (Nat.le_of_eq g2.symm)))).other W17 (Nat.ne_of_lt (Nat.lt_of_lt_of_le V_H.lt (Nat.le_of_eq g2.symm)))).other W20 (Nat.ne_of_lt (Nat.lt_of_lt_of_le V_H.lt (Nat.le_of_eq g2.symm)))).other W23 (Nat.ne_of_lt (Nat.lt_of_lt_of_le V_H.lt (Nat.le_of_eq g2.symm)))).other W26 (Nat.ne_of_lt (Nat.lt_of_lt_of_le V_H.lt (Nat.le_of_eq g2.symm)))).other W29 (Nat.ne_of_lt (Nat.lt_of_lt_of_le V_H.lt (Nat.le_of_eq g2.symm)))).other W32 (Nat.ne_of_lt (Nat.lt_of_lt_of_le V_H.lt (Nat.le_of_eq g2.symm)))).other W35 (Nat.ne_of_lt (Nat.lt_of_lt_of_le V_H.lt (Nat.le_of_eq g2.symm)))).other W38 (Nat.ne_of_lt (Nat.lt_of_lt_of_le V_H.lt (Nat.le_of_eq g2.symm)))).other W41 (Nat.ne_of_lt (Nat.lt_of_lt_of_le V_H.lt (Nat.le_of_eq g2.symm)))).other W44 (Nat.ne_of_lt (Nat.lt_of_lt_of_le V_H.lt (Nat.le_of_eq g2.symm)))).lt (Nat.le_of_eq g47.symm)))), ((((((((((((((((((S_H.ext E2).wr W5).wr W8).wr W11).wr W14).wr W17).wr W20).wr W23).wr W26).wr W29).wr W32).wr W35).wr W38).wr W41).wr W44).ext E47).wr W53).wr W56), (((V44'.ext E47).other W53 (Nat.ne_of_lt (Nat.lt_of_lt_of_le V44'.lt (Nat.le_of_eq g47.symm)))).other W56 (Nat.ne_of_lt (Nat.lt_of_lt_of_le V44'.lt (Nat.le_of_eq g47.symm)))), (by rw [show (m0_280_b47 p0) = (B0_152 p0) from (by unfold m0_280_b47; rw [if_pos hc127_51])]; exact V56'), (Nat.le_trans (Nat.le_trans (Nat.le_trans (Nat.le_trans (Nat.le_trans (Nat.le_trans (Nat.le_trans (Nat.le_trans (Nat.le_trans (Nat.le_trans (Nat.le_trans (Nat.le_trans (Nat.le_trans (Nat.le_trans (Nat.le_trans (Nat.le_trans (Nat.le_trans (Nat.le_trans Z0 E2.1) (Keep.of_wr W5).1) (Keep.of_wr W8).1) (Keep.of_wr W11).1) (Keep.of_wr W14).1) (Keep.of_wr W17).1) (Keep.of_wr W20).1) (Keep.of_wr W23).1) (Keep.of_wr W26).1) (Keep.of_wr W29).1) (Keep.of_wr W32).1) (Keep.of_wr W35).1) (Keep.of_wr W38).1) (Keep.of_wr W41).1) (Keep.of_wr W44).1) E47.1) (Keep.of_wr W53).1) (Keep.of_wr W56).1), (by rw [show (m0_280_l8 p0) = (2 : Int32) from (by unfold m0_280_l8; rw [if_pos hc127_51])]; exact k58)⟩
    · have k59 : own_Go p e below (s₁.setTop (entryFrame m #[(.int p0), (.int p1), (.int p2)] maxLocals)) (T47.setTop (mkF m 134 #[.val (.int p0), .val (.int p1), .val (.int p2), .val (.int (v0_5 p0)), .val (.int (p1 &&& (7 : Int32))), .val (.int (p2.toInt8.toInt32)), .val (.ref b2), .val (.ref b47), .unset, .val (.int (v0_5 p0)), .unset, .unset] [(.int (92 : Int32)), (.int (v0_5 p0))])) := by
        intro t k
        refine k49 t ?_
        show Steps p.tables e below (T47.setTop (mkF m 127 #[.val (.int p0), .val (.int p1), .val (.int p2), .val (.int (v0_5 p0)), .val (.int (p1 &&& (7 : Int32))), .val (.int (p2.toInt8.toInt32)), .val (.ref b2), .val (.ref b47), .unset, .val (.int (v0_5 p0)), .unset, .unset] [(.int (34 : Int32)), (.int (v0_5 p0))])) t
        refine XS.icmpNo X47.here hx rfl (hb hby at_127) rfl (feq hc127_51).1 ?_
        show Steps p.tables e below (T47.setTop (mkF m 130 #[.val (.int p0), .val (.int p1), .val (.int p2), .val (.int (v0_5 p0)), .val (.int (p1 &&& (7 : Int32))), .val (.int (p2.toInt8.toInt32)), .val (.ref b2), .val (.ref b47), .unset, .val (.int (v0_5 p0)), .unset, .unset] [])) t
        refine XS.iload X47.here hx rfl (hb hby at_130) rfl ?_
        show Steps p.tables e below (T47.setTop (mkF m 132 #[.val (.int p0), .val (.int p1), .val (.int p2), .val (.int (v0_5 p0)), .val (.int (p1 &&& (7 : Int32))), .val (.int (p2.toInt8.toInt32)), .val (.ref b2), .val (.ref b47), .unset, .val (.int (v0_5 p0)), .unset, .unset] [(.int (v0_5 p0))])) t
        refine XS.bipush X47.here hx rfl (hb hby at_132) ?_
        exact k
      by_cases hc134_60 : (v0_5 p0) = (92 : Int32)
      · have k61 : own_Go p e below (s₁.setTop (entryFrame m #[(.int p0), (.int p1), (.int p2)] maxLocals)) (T47.setTop (mkF m 145 #[.val (.int p0), .val (.int p1), .val (.int p2), .val (.int (v0_5 p0)), .val (.int (p1 &&& (7 : Int32))), .val (.int (p2.toInt8.toInt32)), .val (.ref b2), .val (.ref b47), .val (.int (2 : Int32)), .val (.int (v0_5 p0)), .unset, .unset] [(.int (92 : Int32)), (.int (0 : Int32)), (.ref b47)])) := by
          intro t k
          refine k59 t ?_
          show Steps p.tables e below (T47.setTop (mkF m 134 #[.val (.int p0), .val (.int p1), .val (.int p2), .val (.int (v0_5 p0)), .val (.int (p1 &&& (7 : Int32))), .val (.int (p2.toInt8.toInt32)), .val (.ref b2), .val (.ref b47), .unset, .val (.int (v0_5 p0)), .unset, .unset] [(.int (92 : Int32)), (.int (v0_5 p0))])) t
          refine XS.icmpNo X47.here hx rfl (hb hby at_134) rfl (teq hc134_60).2 ?_
          show Steps p.tables e below (T47.setTop (mkF m 137 #[.val (.int p0), .val (.int p1), .val (.int p2), .val (.int (v0_5 p0)), .val (.int (p1 &&& (7 : Int32))), .val (.int (p2.toInt8.toInt32)), .val (.ref b2), .val (.ref b47), .unset, .val (.int (v0_5 p0)), .unset, .unset] [])) t
          refine XS.iconst X47.here hx rfl (hb hby at_137) ?_
          show Steps p.tables e below (T47.setTop (mkF m 138 #[.val (.int p0), .val (.int p1), .val (.int p2), .val (.int (v0_5 p0)), .val (.int (p1 &&& (7 : Int32))), .val (.int (p2.toInt8.toInt32)), .val (.ref b2), .val (.ref b47), .unset, .val (.int (v0_5 p0)), .unset, .unset] [(.int (2 : Int32))])) t
          refine XS.istore X47.here hx rfl (hb hby at_138) rfl (l' := #[.val (.int p0), .val (.int p1), .val (.int p2), .val (.int (v0_5 p0)), .val (.int (p1 &&& (7 : Int32))), .val (.int (p2.toInt8.toInt32)), .val (.ref b2), .val (.ref b47), .val (.int (2 : Int32)), .val (.int (v0_5 p0)), .unset, .unset]) rfl ?_
          show Steps p.tables e below (T47.setTop (mkF m 140 #[.val (.int p0), .val (.int p1), .val (.int p2), .val (.int (v0_5 p0)), .val (.int (p1 &&& (7 : Int32))), .val (.int (p2.toInt8.toInt32)), .val (.ref b2), .val (.ref b47), .val (.int (2 : Int32)), .val (.int (v0_5 p0)), .unset, .unset] [])) t
          refine XS.aload X47.here hx rfl (hb hby at_140) rfl rfl ?_
          show Steps p.tables e below (T47.setTop (mkF m 142 #[.val (.int p0), .val (.int p1), .val (.int p2), .val (.int (v0_5 p0)), .val (.int (p1 &&& (7 : Int32))), .val (.int (p2.toInt8.toInt32)), .val (.ref b2), .val (.ref b47), .val (.int (2 : Int32)), .val (.int (v0_5 p0)), .unset, .unset] [(.ref b47)])) t
          refine XS.iconst X47.here hx rfl (hb hby at_142) ?_
          show Steps p.tables e below (T47.setTop (mkF m 143 #[.val (.int p0), .val (.int p1), .val (.int p2), .val (.int (v0_5 p0)), .val (.int (p1 &&& (7 : Int32))), .val (.int (p2.toInt8.toInt32)), .val (.ref b2), .val (.ref b47), .val (.int (2 : Int32)), .val (.int (v0_5 p0)), .unset, .unset] [(.int (0 : Int32)), (.ref b47)])) t
          refine XS.bipush X47.here hx rfl (hb hby at_143) ?_
          exact k
        obtain ⟨T62, h62, X62, e62, W62, V62, st62⟩ := own_bst X47 hx hZ e47 V47 (j := (0 : Int32)) (by decide) (by decide) (g := (mkF m 145 #[.val (.int p0), .val (.int p1), .val (.int p2), .val (.int (v0_5 p0)), .val (.int (p1 &&& (7 : Int32))), .val (.int (p2.toInt8.toInt32)), .val (.ref b2), .val (.ref b47), .val (.int (2 : Int32)), .val (.int (v0_5 p0)), .unset, .unset] [(.int (92 : Int32)), (.int (0 : Int32)), (.ref b47)])) rfl rfl (hb hby at_145)
        have V62' : own_By Z h62 b47 6 B0_145 := V62
        have N62 := Fr.snoc X62 N44 g_b47
        have k63 : own_Go p e below (s₁.setTop (entryFrame m #[(.int p0), (.int p1), (.int p2)] maxLocals)) (T62.setTop (mkF m 146 #[.val (.int p0), .val (.int p1), .val (.int p2), .val (.int (v0_5 p0)), .val (.int (p1 &&& (7 : Int32))), .val (.int (p2.toInt8.toInt32)), .val (.ref b2), .val (.ref b47), .val (.int (2 : Int32)), .val (.int (v0_5 p0)), .unset, .unset] [])) := fun t k => k61 t (st62 t k)
        have k64 : own_Go p e below (s₁.setTop (entryFrame m #[(.int p0), (.int p1), (.int p2)] maxLocals)) (T62.setTop (mkF m 152 #[.val (.int p0), .val (.int p1), .val (.int p2), .val (.int (v0_5 p0)), .val (.int (p1 &&& (7 : Int32))), .val (.int (p2.toInt8.toInt32)), .val (.ref b2), .val (.ref b47), .val (.int (2 : Int32)), .val (.int (v0_5 p0)), .unset, .unset] [(.int ((v0_5 p0).toInt8.toInt32)), (.int (1 : Int32)), (.ref b47)])) := by
          intro t k
          refine k63 t ?_
          show Steps p.tables e below (T62.setTop (mkF m 146 #[.val (.int p0), .val (.int p1), .val (.int p2), .val (.int (v0_5 p0)), .val (.int (p1 &&& (7 : Int32))), .val (.int (p2.toInt8.toInt32)), .val (.ref b2), .val (.ref b47), .val (.int (2 : Int32)), .val (.int (v0_5 p0)), .unset, .unset] [])) t
          refine XS.aload X62.here hx rfl (hb hby at_146) rfl rfl ?_
          show Steps p.tables e below (T62.setTop (mkF m 148 #[.val (.int p0), .val (.int p1), .val (.int p2), .val (.int (v0_5 p0)), .val (.int (p1 &&& (7 : Int32))), .val (.int (p2.toInt8.toInt32)), .val (.ref b2), .val (.ref b47), .val (.int (2 : Int32)), .val (.int (v0_5 p0)), .unset, .unset] [(.ref b47)])) t
          refine XS.iconst X62.here hx rfl (hb hby at_148) ?_
          show Steps p.tables e below (T62.setTop (mkF m 149 #[.val (.int p0), .val (.int p1), .val (.int p2), .val (.int (v0_5 p0)), .val (.int (p1 &&& (7 : Int32))), .val (.int (p2.toInt8.toInt32)), .val (.ref b2), .val (.ref b47), .val (.int (2 : Int32)), .val (.int (v0_5 p0)), .unset, .unset] [(.int (1 : Int32)), (.ref b47)])) t
          refine XS.iload X62.here hx rfl (hb hby at_149) rfl ?_
          show Steps p.tables e below (T62.setTop (mkF m 151 #[.val (.int p0), .val (.int p1), .val (.int p2), .val (.int (v0_5 p0)), .val (.int (p1 &&& (7 : Int32))), .val (.int (p2.toInt8.toInt32)), .val (.ref b2), .val (.ref b47), .val (.int (2 : Int32)), .val (.int (v0_5 p0)), .unset, .unset] [(.int (v0_5 p0)), (.int (1 : Int32)), (.ref b47)])) t
          refine XS.i2b X62.here hx rfl (hb hby at_151) rfl ?_
          exact k
        obtain ⟨T65, h65, X65, e65, W65, V65, st65⟩ := own_bst X62 hx hZ e62 V62' (j := (1 : Int32)) (by decide) (by decide) (g := (mkF m 152 #[.val (.int p0), .val (.int p1), .val (.int p2), .val (.int (v0_5 p0)), .val (.int (p1 &&& (7 : Int32))), .val (.int (p2.toInt8.toInt32)), .val (.ref b2), .val (.ref b47), .val (.int (2 : Int32)), .val (.int (v0_5 p0)), .unset, .unset] [(.int ((v0_5 p0).toInt8.toInt32)), (.int (1 : Int32)), (.ref b47)])) rfl rfl (hb hby at_152)
        have V65' : own_By Z h65 b47 6 (B0_152 p0) := V65
        have N65 := Fr.snoc X65 N62 g_b47
        have k66 : own_Go p e below (s₁.setTop (entryFrame m #[(.int p0), (.int p1), (.int p2)] maxLocals)) (T65.setTop (mkF m 153 #[.val (.int p0), .val (.int p1), .val (.int p2), .val (.int (v0_5 p0)), .val (.int (p1 &&& (7 : Int32))), .val (.int (p2.toInt8.toInt32)), .val (.ref b2), .val (.ref b47), .val (.int (2 : Int32)), .val (.int (v0_5 p0)), .unset, .unset] [])) := fun t k => k64 t (st65 t k)
        have k67 : own_Go p e below (s₁.setTop (entryFrame m #[(.int p0), (.int p1), (.int p2)] maxLocals)) (T65.setTop (mkF m 280 #[.val (.int p0), .val (.int p1), .val (.int p2), .val (.int (v0_5 p0)), .val (.int (p1 &&& (7 : Int32))), .val (.int (p2.toInt8.toInt32)), .val (.ref b2), .val (.ref b47), .val (.int (2 : Int32)), .val (.int (v0_5 p0)), .unset, .unset] [])) := by
          intro t k
          refine k66 t ?_
          show Steps p.tables e below (T65.setTop (mkF m 153 #[.val (.int p0), .val (.int p1), .val (.int p2), .val (.int (v0_5 p0)), .val (.int (p1 &&& (7 : Int32))), .val (.int (p2.toInt8.toInt32)), .val (.ref b2), .val (.ref b47), .val (.int (2 : Int32)), .val (.int (v0_5 p0)), .unset, .unset] [])) t
          refine XS.goto X65.here hx rfl (pc0 := 153) (pc' := 280) rfl (hb hby at_153) (by decide) (by decide) ?_
          exact k
        exact ⟨_, _, _, X65, e65, N65, ((((((((((((((((((V_H.ext E2).other W5 (Nat.ne_of_lt (Nat.lt_of_lt_of_le V_H.lt (Nat.le_of_eq g2.symm)))).other W8 (Nat.ne_of_lt (Nat.lt_of_lt_of_le V_H.lt (Nat.le_of_eq g2.symm)))).other W11 (Nat.ne_of_lt (Nat.lt_of_lt_of_le V_H.lt (Nat.le_of_eq g2.symm)))).other W14 (Nat.ne_of_lt (Nat.lt_of_lt_of_le V_H.lt (Nat.le_of_eq g2.symm)))).other W17 (Nat.ne_of_lt (Nat.lt_of_lt_of_le V_H.lt (Nat.le_of_eq g2.symm)))).other W20 (Nat.ne_of_lt (Nat.lt_of_lt_of_le V_H.lt (Nat.le_of_eq g2.symm)))).other W23 (Nat.ne_of_lt (Nat.lt_of_lt_of_le V_H.lt (Nat.le_of_eq g2.symm)))).other W26 (Nat.ne_of_lt (Nat.lt_of_lt_of_le V_H.lt (Nat.le_of_eq g2.symm)))).other W29 (Nat.ne_of_lt (Nat.lt_of_lt_of_le V_H.lt (Nat.le_of_eq g2.symm)))).other W32 (Nat.ne_of_lt (Nat.lt_of_lt_of_le V_H.lt (Nat.le_of_eq g2.symm)))).other W35 (Nat.ne_of_lt (Nat.lt_of_lt_of_le V_H.lt (Nat.le_of_eq g2.symm)))).other W38 (Nat.ne_of_lt (Nat.lt_of_lt_of_le V_H.lt (Nat.le_of_eq g2.symm)))).other W41 (Nat.ne_of_lt (Nat.lt_of_lt_of_le V_H.lt (Nat.le_of_eq g2.symm)))).other W44 (Nat.ne_of_lt (Nat.lt_of_lt_of_le V_H.lt (Nat.le_of_eq g2.symm)))).ext E47).other W62 (Nat.ne_of_lt (Nat.lt_of_lt_of_le (((((((((((((((V_H.ext E2).other W5 (Nat.ne_of_lt (Nat.lt_of_lt_of_le V_H.lt (Nat.le_of_eq g2.symm)))).other W8 (Nat.ne_of_lt (Nat.lt_of_lt_of_le V_H.lt (Nat.le_of_eq g2.symm)))).other W11 (Nat.ne_of_lt (Nat.lt_of_lt_of_le V_H.lt (Nat.le_of_eq g2.symm)))).other W14 (Nat.ne_of_lt (Nat.lt_of_lt_of_le V_H.lt (Nat.le_of_eq g2.symm)))).other W17 (Nat.ne_of_lt (Nat.lt_of_lt_of_le V_H.lt (Nat.le_of_eq g2.symm)))).other W20 (Nat.ne_of_lt (Nat.lt_of_lt_of_le V_H.lt (Nat.le_of_eq g2.symm)))).other W23 (Nat.ne_of_lt (Nat.lt_of_lt_of_le V_H.lt (Nat.le_of_eq g2.symm)))).other W26 (Nat.ne_of_lt (Nat.lt_of_lt_of_le V_H.lt (Nat.le_of_eq g2.symm)))).other W29 (Nat.ne_of_lt (Nat.lt_of_lt_of_le V_H.lt (Nat.le_of_eq g2.symm)))).other W32 (Nat.ne_of_lt (Nat.lt_of_lt_of_le V_H.lt (Nat.le_of_eq g2.symm)))).other W35 (Nat.ne_of_lt (Nat.lt_of_lt_of_le V_H.lt (Nat.le_of_eq g2.symm)))).other W38 (Nat.ne_of_lt (Nat.lt_of_lt_of_le V_H.lt (Nat.le_of_eq g2.symm)))).other W41 (Nat.ne_of_lt (Nat.lt_of_lt_of_le V_H.lt (Nat.le_of_eq g2.symm)))).other W44 (Nat.ne_of_lt (Nat.lt_of_lt_of_le V_H.lt (Nat.le_of_eq g2.symm)))).lt (Nat.le_of_eq g47.symm)))).other W65 (Nat.ne_of_lt (Nat.lt_of_lt_of_le (((((((((((((((V_H.ext E2).other W5 (Nat.ne_of_lt (Nat.lt_of_lt_of_le V_H.lt (Nat.le_of_eq g2.symm)))).other W8 (Nat.ne_of_lt (Nat.lt_of_lt_of_le V_H.lt (Nat.le_of_eq g2.symm)))).other W11 (Nat.ne_of_lt (Nat.lt_of_lt_of_le V_H.lt (Nat.le_of_eq g2.symm)))).other W14 (Nat.ne_of_lt (Nat.lt_of_lt_of_le V_H.lt (Nat.le_of_eq g2.symm)))).other W17 (Nat.ne_of_lt (Nat.lt_of_lt_of_le V_H.lt (Nat.le_of_eq g2.symm)))).other W20 (Nat.ne_of_lt (Nat.lt_of_lt_of_le V_H.lt (Nat.le_of_eq g2.symm)))).other W23 (Nat.ne_of_lt (Nat.lt_of_lt_of_le V_H.lt (Nat.le_of_eq g2.symm)))).other W26 (Nat.ne_of_lt (Nat.lt_of_lt_of_le V_H.lt (Nat.le_of_eq g2.symm)))).other W29 (Nat.ne_of_lt (Nat.lt_of_lt_of_le V_H.lt (Nat.le_of_eq g2.symm)))).other W32 (Nat.ne_of_lt (Nat.lt_of_lt_of_le V_H.lt (Nat.le_of_eq g2.symm)))).other W35 (Nat.ne_of_lt (Nat.lt_of_lt_of_le V_H.lt (Nat.le_of_eq g2.symm)))).other W38 (Nat.ne_of_lt (Nat.lt_of_lt_of_le V_H.lt (Nat.le_of_eq g2.symm)))).other W41 (Nat.ne_of_lt (Nat.lt_of_lt_of_le V_H.lt (Nat.le_of_eq g2.symm)))).other W44 (Nat.ne_of_lt (Nat.lt_of_lt_of_le V_H.lt (Nat.le_of_eq g2.symm)))).lt (Nat.le_of_eq g47.symm)))), ((((((((((((((((((S_H.ext E2).wr W5).wr W8).wr W11).wr W14).wr W17).wr W20).wr W23).wr W26).wr W29).wr W32).wr W35).wr W38).wr W41).wr W44).ext E47).wr W62).wr W65), (((V44'.ext E47).other W62 (Nat.ne_of_lt (Nat.lt_of_lt_of_le V44'.lt (Nat.le_of_eq g47.symm)))).other W65 (Nat.ne_of_lt (Nat.lt_of_lt_of_le V44'.lt (Nat.le_of_eq g47.symm)))), (by rw [show (m0_280_b47 p0) = (B0_152 p0) from (by unfold m0_280_b47; rw [if_neg hc127_51, if_pos hc134_60])]; exact V65'), (Nat.le_trans (Nat.le_trans (Nat.le_trans (Nat.le_trans (Nat.le_trans (Nat.le_trans (Nat.le_trans (Nat.le_trans (Nat.le_trans (Nat.le_trans (Nat.le_trans (Nat.le_trans (Nat.le_trans (Nat.le_trans (Nat.le_trans (Nat.le_trans (Nat.le_trans (Nat.le_trans Z0 E2.1) (Keep.of_wr W5).1) (Keep.of_wr W8).1) (Keep.of_wr W11).1) (Keep.of_wr W14).1) (Keep.of_wr W17).1) (Keep.of_wr W20).1) (Keep.of_wr W23).1) (Keep.of_wr W26).1) (Keep.of_wr W29).1) (Keep.of_wr W32).1) (Keep.of_wr W35).1) (Keep.of_wr W38).1) (Keep.of_wr W41).1) (Keep.of_wr W44).1) E47.1) (Keep.of_wr W62).1) (Keep.of_wr W65).1), (by rw [show (m0_280_l8 p0) = (2 : Int32) from (by unfold m0_280_l8; rw [if_neg hc127_51, if_pos hc134_60])]; exact k67)⟩
      · have k68 : own_Go p e below (s₁.setTop (entryFrame m #[(.int p0), (.int p1), (.int p2)] maxLocals)) (T47.setTop (mkF m 160 #[.val (.int p0), .val (.int p1), .val (.int p2), .val (.int (v0_5 p0)), .val (.int (p1 &&& (7 : Int32))), .val (.int (p2.toInt8.toInt32)), .val (.ref b2), .val (.ref b47), .unset, .val (.int (v0_5 p0)), .unset, .unset] [(.int (32 : Int32)), (.int (v0_5 p0))])) := by
          intro t k
          refine k59 t ?_
          show Steps p.tables e below (T47.setTop (mkF m 134 #[.val (.int p0), .val (.int p1), .val (.int p2), .val (.int (v0_5 p0)), .val (.int (p1 &&& (7 : Int32))), .val (.int (p2.toInt8.toInt32)), .val (.ref b2), .val (.ref b47), .unset, .val (.int (v0_5 p0)), .unset, .unset] [(.int (92 : Int32)), (.int (v0_5 p0))])) t
          refine XS.icmpYes X47.here hx rfl (pc0 := 134) (pc' := 156) rfl (hb hby at_134) rfl (feq hc134_60).2 (by decide) (by decide) ?_
          show Steps p.tables e below (T47.setTop (mkF m 156 #[.val (.int p0), .val (.int p1), .val (.int p2), .val (.int (v0_5 p0)), .val (.int (p1 &&& (7 : Int32))), .val (.int (p2.toInt8.toInt32)), .val (.ref b2), .val (.ref b47), .unset, .val (.int (v0_5 p0)), .unset, .unset] [])) t
          refine XS.iload X47.here hx rfl (hb hby at_156) rfl ?_
          show Steps p.tables e below (T47.setTop (mkF m 158 #[.val (.int p0), .val (.int p1), .val (.int p2), .val (.int (v0_5 p0)), .val (.int (p1 &&& (7 : Int32))), .val (.int (p2.toInt8.toInt32)), .val (.ref b2), .val (.ref b47), .unset, .val (.int (v0_5 p0)), .unset, .unset] [(.int (v0_5 p0))])) t
          refine XS.bipush X47.here hx rfl (hb hby at_158) ?_
          exact k
        by_cases hc160_69 : (v0_5 p0) < (32 : Int32)
        · have k70 : own_Go p e below (s₁.setTop (entryFrame m #[(.int p0), (.int p1), (.int p2)] maxLocals)) (T47.setTop (mkF m 187 #[.val (.int p0), .val (.int p1), .val (.int p2), .val (.int (v0_5 p0)), .val (.int (p1 &&& (7 : Int32))), .val (.int (p2.toInt8.toInt32)), .val (.ref b2), .val (.ref b47), .unset, .val (.int (v0_5 p0)), .unset, .unset] [(.int (9 : Int32)), (.int (v0_5 p0))])) := by
            intro t k
            refine k68 t ?_
            show Steps p.tables e below (T47.setTop (mkF m 160 #[.val (.int p0), .val (.int p1), .val (.int p2), .val (.int (v0_5 p0)), .val (.int (p1 &&& (7 : Int32))), .val (.int (p2.toInt8.toInt32)), .val (.ref b2), .val (.ref b47), .unset, .val (.int (v0_5 p0)), .unset, .unset] [(.int (32 : Int32)), (.int (v0_5 p0))])) t
            refine XS.icmpYes X47.here hx rfl (pc0 := 160) (pc' := 183) rfl (hb hby at_160) rfl (tlt hc160_69).1 (by decide) (by decide) ?_
            show Steps p.tables e below (T47.setTop (mkF m 183 #[.val (.int p0), .val (.int p1), .val (.int p2), .val (.int (v0_5 p0)), .val (.int (p1 &&& (7 : Int32))), .val (.int (p2.toInt8.toInt32)), .val (.ref b2), .val (.ref b47), .unset, .val (.int (v0_5 p0)), .unset, .unset] [])) t
            refine XS.iload X47.here hx rfl (hb hby at_183) rfl ?_
            show Steps p.tables e below (T47.setTop (mkF m 185 #[.val (.int p0), .val (.int p1), .val (.int p2), .val (.int (v0_5 p0)), .val (.int (p1 &&& (7 : Int32))), .val (.int (p2.toInt8.toInt32)), .val (.ref b2), .val (.ref b47), .unset, .val (.int (v0_5 p0)), .unset, .unset] [(.int (v0_5 p0))])) t
            refine XS.bipush X47.here hx rfl (hb hby at_185) ?_
            exact k
          by_cases hc187_71 : (v0_5 p0) = (9 : Int32)
          · have k72 : own_Go p e below (s₁.setTop (entryFrame m #[(.int p0), (.int p1), (.int p2)] maxLocals)) (T47.setTop (mkF m 198 #[.val (.int p0), .val (.int p1), .val (.int p2), .val (.int (v0_5 p0)), .val (.int (p1 &&& (7 : Int32))), .val (.int (p2.toInt8.toInt32)), .val (.ref b2), .val (.ref b47), .val (.int (2 : Int32)), .val (.int (v0_5 p0)), .unset, .unset] [(.int (92 : Int32)), (.int (0 : Int32)), (.ref b47)])) := by
              intro t k
              refine k70 t ?_
              show Steps p.tables e below (T47.setTop (mkF m 187 #[.val (.int p0), .val (.int p1), .val (.int p2), .val (.int (v0_5 p0)), .val (.int (p1 &&& (7 : Int32))), .val (.int (p2.toInt8.toInt32)), .val (.ref b2), .val (.ref b47), .unset, .val (.int (v0_5 p0)), .unset, .unset] [(.int (9 : Int32)), (.int (v0_5 p0))])) t
              refine XS.icmpNo X47.here hx rfl (hb hby at_187) rfl (teq hc187_71).2 ?_
              show Steps p.tables e below (T47.setTop (mkF m 190 #[.val (.int p0), .val (.int p1), .val (.int p2), .val (.int (v0_5 p0)), .val (.int (p1 &&& (7 : Int32))), .val (.int (p2.toInt8.toInt32)), .val (.ref b2), .val (.ref b47), .unset, .val (.int (v0_5 p0)), .unset, .unset] [])) t
              refine XS.iconst X47.here hx rfl (hb hby at_190) ?_
              show Steps p.tables e below (T47.setTop (mkF m 191 #[.val (.int p0), .val (.int p1), .val (.int p2), .val (.int (v0_5 p0)), .val (.int (p1 &&& (7 : Int32))), .val (.int (p2.toInt8.toInt32)), .val (.ref b2), .val (.ref b47), .unset, .val (.int (v0_5 p0)), .unset, .unset] [(.int (2 : Int32))])) t
              refine XS.istore X47.here hx rfl (hb hby at_191) rfl (l' := #[.val (.int p0), .val (.int p1), .val (.int p2), .val (.int (v0_5 p0)), .val (.int (p1 &&& (7 : Int32))), .val (.int (p2.toInt8.toInt32)), .val (.ref b2), .val (.ref b47), .val (.int (2 : Int32)), .val (.int (v0_5 p0)), .unset, .unset]) rfl ?_
              show Steps p.tables e below (T47.setTop (mkF m 193 #[.val (.int p0), .val (.int p1), .val (.int p2), .val (.int (v0_5 p0)), .val (.int (p1 &&& (7 : Int32))), .val (.int (p2.toInt8.toInt32)), .val (.ref b2), .val (.ref b47), .val (.int (2 : Int32)), .val (.int (v0_5 p0)), .unset, .unset] [])) t
              refine XS.aload X47.here hx rfl (hb hby at_193) rfl rfl ?_
              show Steps p.tables e below (T47.setTop (mkF m 195 #[.val (.int p0), .val (.int p1), .val (.int p2), .val (.int (v0_5 p0)), .val (.int (p1 &&& (7 : Int32))), .val (.int (p2.toInt8.toInt32)), .val (.ref b2), .val (.ref b47), .val (.int (2 : Int32)), .val (.int (v0_5 p0)), .unset, .unset] [(.ref b47)])) t
              refine XS.iconst X47.here hx rfl (hb hby at_195) ?_
              show Steps p.tables e below (T47.setTop (mkF m 196 #[.val (.int p0), .val (.int p1), .val (.int p2), .val (.int (v0_5 p0)), .val (.int (p1 &&& (7 : Int32))), .val (.int (p2.toInt8.toInt32)), .val (.ref b2), .val (.ref b47), .val (.int (2 : Int32)), .val (.int (v0_5 p0)), .unset, .unset] [(.int (0 : Int32)), (.ref b47)])) t
              refine XS.bipush X47.here hx rfl (hb hby at_196) ?_
              exact k
            obtain ⟨T73, h73, X73, e73, W73, V73, st73⟩ := own_bst X47 hx hZ e47 V47 (j := (0 : Int32)) (by decide) (by decide) (g := (mkF m 198 #[.val (.int p0), .val (.int p1), .val (.int p2), .val (.int (v0_5 p0)), .val (.int (p1 &&& (7 : Int32))), .val (.int (p2.toInt8.toInt32)), .val (.ref b2), .val (.ref b47), .val (.int (2 : Int32)), .val (.int (v0_5 p0)), .unset, .unset] [(.int (92 : Int32)), (.int (0 : Int32)), (.ref b47)])) rfl rfl (hb hby at_198)
            have V73' : own_By Z h73 b47 6 B0_198 := V73
            have N73 := Fr.snoc X73 N44 g_b47
            have k74 : own_Go p e below (s₁.setTop (entryFrame m #[(.int p0), (.int p1), (.int p2)] maxLocals)) (T73.setTop (mkF m 199 #[.val (.int p0), .val (.int p1), .val (.int p2), .val (.int (v0_5 p0)), .val (.int (p1 &&& (7 : Int32))), .val (.int (p2.toInt8.toInt32)), .val (.ref b2), .val (.ref b47), .val (.int (2 : Int32)), .val (.int (v0_5 p0)), .unset, .unset] [])) := fun t k => k72 t (st73 t k)
            have k75 : own_Go p e below (s₁.setTop (entryFrame m #[(.int p0), (.int p1), (.int p2)] maxLocals)) (T73.setTop (mkF m 204 #[.val (.int p0), .val (.int p1), .val (.int p2), .val (.int (v0_5 p0)), .val (.int (p1 &&& (7 : Int32))), .val (.int (p2.toInt8.toInt32)), .val (.ref b2), .val (.ref b47), .val (.int (2 : Int32)), .val (.int (v0_5 p0)), .unset, .unset] [(.int (116 : Int32)), (.int (1 : Int32)), (.ref b47)])) := by
              intro t k
              refine k74 t ?_
              show Steps p.tables e below (T73.setTop (mkF m 199 #[.val (.int p0), .val (.int p1), .val (.int p2), .val (.int (v0_5 p0)), .val (.int (p1 &&& (7 : Int32))), .val (.int (p2.toInt8.toInt32)), .val (.ref b2), .val (.ref b47), .val (.int (2 : Int32)), .val (.int (v0_5 p0)), .unset, .unset] [])) t
              refine XS.aload X73.here hx rfl (hb hby at_199) rfl rfl ?_
              show Steps p.tables e below (T73.setTop (mkF m 201 #[.val (.int p0), .val (.int p1), .val (.int p2), .val (.int (v0_5 p0)), .val (.int (p1 &&& (7 : Int32))), .val (.int (p2.toInt8.toInt32)), .val (.ref b2), .val (.ref b47), .val (.int (2 : Int32)), .val (.int (v0_5 p0)), .unset, .unset] [(.ref b47)])) t
              refine XS.iconst X73.here hx rfl (hb hby at_201) ?_
              show Steps p.tables e below (T73.setTop (mkF m 202 #[.val (.int p0), .val (.int p1), .val (.int p2), .val (.int (v0_5 p0)), .val (.int (p1 &&& (7 : Int32))), .val (.int (p2.toInt8.toInt32)), .val (.ref b2), .val (.ref b47), .val (.int (2 : Int32)), .val (.int (v0_5 p0)), .unset, .unset] [(.int (1 : Int32)), (.ref b47)])) t
              refine XS.bipush X73.here hx rfl (hb hby at_202) ?_
              exact k
            obtain ⟨T76, h76, X76, e76, W76, V76, st76⟩ := own_bst X73 hx hZ e73 V73' (j := (1 : Int32)) (by decide) (by decide) (g := (mkF m 204 #[.val (.int p0), .val (.int p1), .val (.int p2), .val (.int (v0_5 p0)), .val (.int (p1 &&& (7 : Int32))), .val (.int (p2.toInt8.toInt32)), .val (.ref b2), .val (.ref b47), .val (.int (2 : Int32)), .val (.int (v0_5 p0)), .unset, .unset] [(.int (116 : Int32)), (.int (1 : Int32)), (.ref b47)])) rfl rfl (hb hby at_204)
            have V76' : own_By Z h76 b47 6 B0_204 := V76
            have N76 := Fr.snoc X76 N73 g_b47
            have k77 : own_Go p e below (s₁.setTop (entryFrame m #[(.int p0), (.int p1), (.int p2)] maxLocals)) (T76.setTop (mkF m 205 #[.val (.int p0), .val (.int p1), .val (.int p2), .val (.int (v0_5 p0)), .val (.int (p1 &&& (7 : Int32))), .val (.int (p2.toInt8.toInt32)), .val (.ref b2), .val (.ref b47), .val (.int (2 : Int32)), .val (.int (v0_5 p0)), .unset, .unset] [])) := fun t k => k75 t (st76 t k)
            have k78 : own_Go p e below (s₁.setTop (entryFrame m #[(.int p0), (.int p1), (.int p2)] maxLocals)) (T76.setTop (mkF m 280 #[.val (.int p0), .val (.int p1), .val (.int p2), .val (.int (v0_5 p0)), .val (.int (p1 &&& (7 : Int32))), .val (.int (p2.toInt8.toInt32)), .val (.ref b2), .val (.ref b47), .val (.int (2 : Int32)), .val (.int (v0_5 p0)), .unset, .unset] [])) := by
              intro t k
              refine k77 t ?_
              show Steps p.tables e below (T76.setTop (mkF m 205 #[.val (.int p0), .val (.int p1), .val (.int p2), .val (.int (v0_5 p0)), .val (.int (p1 &&& (7 : Int32))), .val (.int (p2.toInt8.toInt32)), .val (.ref b2), .val (.ref b47), .val (.int (2 : Int32)), .val (.int (v0_5 p0)), .unset, .unset] [])) t
              refine XS.goto X76.here hx rfl (pc0 := 205) (pc' := 280) rfl (hb hby at_205) (by decide) (by decide) ?_
              exact k
            exact ⟨_, _, _, X76, e76, N76, ((((((((((((((((((V_H.ext E2).other W5 (Nat.ne_of_lt (Nat.lt_of_lt_of_le V_H.lt (Nat.le_of_eq g2.symm)))).other W8 (Nat.ne_of_lt (Nat.lt_of_lt_of_le V_H.lt (Nat.le_of_eq g2.symm)))).other W11 (Nat.ne_of_lt (Nat.lt_of_lt_of_le V_H.lt (Nat.le_of_eq g2.symm)))).other W14 (Nat.ne_of_lt (Nat.lt_of_lt_of_le V_H.lt (Nat.le_of_eq g2.symm)))).other W17 (Nat.ne_of_lt (Nat.lt_of_lt_of_le V_H.lt (Nat.le_of_eq g2.symm)))).other W20 (Nat.ne_of_lt (Nat.lt_of_lt_of_le V_H.lt (Nat.le_of_eq g2.symm)))).other W23 (Nat.ne_of_lt (Nat.lt_of_lt_of_le V_H.lt (Nat.le_of_eq g2.symm)))).other W26 (Nat.ne_of_lt (Nat.lt_of_lt_of_le V_H.lt (Nat.le_of_eq g2.symm)))).other W29 (Nat.ne_of_lt (Nat.lt_of_lt_of_le V_H.lt (Nat.le_of_eq g2.symm)))).other W32 (Nat.ne_of_lt (Nat.lt_of_lt_of_le V_H.lt (Nat.le_of_eq g2.symm)))).other W35 (Nat.ne_of_lt (Nat.lt_of_lt_of_le V_H.lt (Nat.le_of_eq g2.symm)))).other W38 (Nat.ne_of_lt (Nat.lt_of_lt_of_le V_H.lt (Nat.le_of_eq g2.symm)))).other W41 (Nat.ne_of_lt (Nat.lt_of_lt_of_le V_H.lt (Nat.le_of_eq g2.symm)))).other W44 (Nat.ne_of_lt (Nat.lt_of_lt_of_le V_H.lt (Nat.le_of_eq g2.symm)))).ext E47).other W73 (Nat.ne_of_lt (Nat.lt_of_lt_of_le (((((((((((((((V_H.ext E2).other W5 (Nat.ne_of_lt (Nat.lt_of_lt_of_le V_H.lt (Nat.le_of_eq g2.symm)))).other W8 (Nat.ne_of_lt (Nat.lt_of_lt_of_le V_H.lt (Nat.le_of_eq g2.symm)))).other W11 (Nat.ne_of_lt (Nat.lt_of_lt_of_le V_H.lt (Nat.le_of_eq g2.symm)))).other W14 (Nat.ne_of_lt (Nat.lt_of_lt_of_le V_H.lt (Nat.le_of_eq g2.symm)))).other W17 (Nat.ne_of_lt (Nat.lt_of_lt_of_le V_H.lt (Nat.le_of_eq g2.symm)))).other W20 (Nat.ne_of_lt (Nat.lt_of_lt_of_le V_H.lt (Nat.le_of_eq g2.symm)))).other W23 (Nat.ne_of_lt (Nat.lt_of_lt_of_le V_H.lt (Nat.le_of_eq g2.symm)))).other W26 (Nat.ne_of_lt (Nat.lt_of_lt_of_le V_H.lt (Nat.le_of_eq g2.symm)))).other W29 (Nat.ne_of_lt (Nat.lt_of_lt_of_le V_H.lt (Nat.le_of_eq g2.symm)))).other W32 (Nat.ne_of_lt (Nat.lt_of_lt_of_le V_H.lt (Nat.le_of_eq g2.symm)))).other W35 (Nat.ne_of_lt (Nat.lt_of_lt_of_le V_H.lt (Nat.le_of_eq g2.symm)))).other W38 (Nat.ne_of_lt (Nat.lt_of_lt_of_le V_H.lt (Nat.le_of_eq g2.symm)))).other W41 (Nat.ne_of_lt (Nat.lt_of_lt_of_le V_H.lt (Nat.le_of_eq g2.symm)))).other W44 (Nat.ne_of_lt (Nat.lt_of_lt_of_le V_H.lt (Nat.le_of_eq g2.symm)))).lt (Nat.le_of_eq g47.symm)))).other W76 (Nat.ne_of_lt (Nat.lt_of_lt_of_le (((((((((((((((V_H.ext E2).other W5 (Nat.ne_of_lt (Nat.lt_of_lt_of_le V_H.lt (Nat.le_of_eq g2.symm)))).other W8 (Nat.ne_of_lt (Nat.lt_of_lt_of_le V_H.lt (Nat.le_of_eq g2.symm)))).other W11 (Nat.ne_of_lt (Nat.lt_of_lt_of_le V_H.lt (Nat.le_of_eq g2.symm)))).other W14 (Nat.ne_of_lt (Nat.lt_of_lt_of_le V_H.lt (Nat.le_of_eq g2.symm)))).other W17 (Nat.ne_of_lt (Nat.lt_of_lt_of_le V_H.lt (Nat.le_of_eq g2.symm)))).other W20 (Nat.ne_of_lt (Nat.lt_of_lt_of_le V_H.lt (Nat.le_of_eq g2.symm)))).other W23 (Nat.ne_of_lt (Nat.lt_of_lt_of_le V_H.lt (Nat.le_of_eq g2.symm)))).other W26 (Nat.ne_of_lt (Nat.lt_of_lt_of_le V_H.lt (Nat.le_of_eq g2.symm)))).other W29 (Nat.ne_of_lt (Nat.lt_of_lt_of_le V_H.lt (Nat.le_of_eq g2.symm)))).other W32 (Nat.ne_of_lt (Nat.lt_of_lt_of_le V_H.lt (Nat.le_of_eq g2.symm)))).other W35 (Nat.ne_of_lt (Nat.lt_of_lt_of_le V_H.lt (Nat.le_of_eq g2.symm)))).other W38 (Nat.ne_of_lt (Nat.lt_of_lt_of_le V_H.lt (Nat.le_of_eq g2.symm)))).other W41 (Nat.ne_of_lt (Nat.lt_of_lt_of_le V_H.lt (Nat.le_of_eq g2.symm)))).other W44 (Nat.ne_of_lt (Nat.lt_of_lt_of_le V_H.lt (Nat.le_of_eq g2.symm)))).lt (Nat.le_of_eq g47.symm)))), ((((((((((((((((((S_H.ext E2).wr W5).wr W8).wr W11).wr W14).wr W17).wr W20).wr W23).wr W26).wr W29).wr W32).wr W35).wr W38).wr W41).wr W44).ext E47).wr W73).wr W76), (((V44'.ext E47).other W73 (Nat.ne_of_lt (Nat.lt_of_lt_of_le V44'.lt (Nat.le_of_eq g47.symm)))).other W76 (Nat.ne_of_lt (Nat.lt_of_lt_of_le V44'.lt (Nat.le_of_eq g47.symm)))), (by rw [show (m0_280_b47 p0) = B0_204 from (by unfold m0_280_b47; rw [if_neg hc127_51, if_neg hc134_60, if_pos hc160_69, if_pos hc187_71])]; exact V76'), (Nat.le_trans (Nat.le_trans (Nat.le_trans (Nat.le_trans (Nat.le_trans (Nat.le_trans (Nat.le_trans (Nat.le_trans (Nat.le_trans (Nat.le_trans (Nat.le_trans (Nat.le_trans (Nat.le_trans (Nat.le_trans (Nat.le_trans (Nat.le_trans (Nat.le_trans (Nat.le_trans Z0 E2.1) (Keep.of_wr W5).1) (Keep.of_wr W8).1) (Keep.of_wr W11).1) (Keep.of_wr W14).1) (Keep.of_wr W17).1) (Keep.of_wr W20).1) (Keep.of_wr W23).1) (Keep.of_wr W26).1) (Keep.of_wr W29).1) (Keep.of_wr W32).1) (Keep.of_wr W35).1) (Keep.of_wr W38).1) (Keep.of_wr W41).1) (Keep.of_wr W44).1) E47.1) (Keep.of_wr W73).1) (Keep.of_wr W76).1), (by rw [show (m0_280_l8 p0) = (2 : Int32) from (by unfold m0_280_l8; rw [if_neg hc127_51, if_neg hc134_60, if_pos hc160_69, if_pos hc187_71])]; exact k78)⟩
          · have k79 : own_Go p e below (s₁.setTop (entryFrame m #[(.int p0), (.int p1), (.int p2)] maxLocals)) (T47.setTop (mkF m 217 #[.val (.int p0), .val (.int p1), .val (.int p2), .val (.int (v0_5 p0)), .val (.int (p1 &&& (7 : Int32))), .val (.int (p2.toInt8.toInt32)), .val (.ref b2), .val (.ref b47), .val (.int (6 : Int32)), .val (.int (v0_5 p0)), .unset, .unset] [(.int (92 : Int32)), (.int (0 : Int32)), (.ref b47)])) := by
              intro t k
              refine k70 t ?_
              show Steps p.tables e below (T47.setTop (mkF m 187 #[.val (.int p0), .val (.int p1), .val (.int p2), .val (.int (v0_5 p0)), .val (.int (p1 &&& (7 : Int32))), .val (.int (p2.toInt8.toInt32)), .val (.ref b2), .val (.ref b47), .unset, .val (.int (v0_5 p0)), .unset, .unset] [(.int (9 : Int32)), (.int (v0_5 p0))])) t
              refine XS.icmpYes X47.here hx rfl (pc0 := 187) (pc' := 208) rfl (hb hby at_187) rfl (feq hc187_71).2 (by decide) (by decide) ?_
              show Steps p.tables e below (T47.setTop (mkF m 208 #[.val (.int p0), .val (.int p1), .val (.int p2), .val (.int (v0_5 p0)), .val (.int (p1 &&& (7 : Int32))), .val (.int (p2.toInt8.toInt32)), .val (.ref b2), .val (.ref b47), .unset, .val (.int (v0_5 p0)), .unset, .unset] [])) t
              refine XS.bipush X47.here hx rfl (hb hby at_208) ?_
              show Steps p.tables e below (T47.setTop (mkF m 210 #[.val (.int p0), .val (.int p1), .val (.int p2), .val (.int (v0_5 p0)), .val (.int (p1 &&& (7 : Int32))), .val (.int (p2.toInt8.toInt32)), .val (.ref b2), .val (.ref b47), .unset, .val (.int (v0_5 p0)), .unset, .unset] [(.int (6 : Int32))])) t
              refine XS.istore X47.here hx rfl (hb hby at_210) rfl (l' := #[.val (.int p0), .val (.int p1), .val (.int p2), .val (.int (v0_5 p0)), .val (.int (p1 &&& (7 : Int32))), .val (.int (p2.toInt8.toInt32)), .val (.ref b2), .val (.ref b47), .val (.int (6 : Int32)), .val (.int (v0_5 p0)), .unset, .unset]) rfl ?_
              show Steps p.tables e below (T47.setTop (mkF m 212 #[.val (.int p0), .val (.int p1), .val (.int p2), .val (.int (v0_5 p0)), .val (.int (p1 &&& (7 : Int32))), .val (.int (p2.toInt8.toInt32)), .val (.ref b2), .val (.ref b47), .val (.int (6 : Int32)), .val (.int (v0_5 p0)), .unset, .unset] [])) t
              refine XS.aload X47.here hx rfl (hb hby at_212) rfl rfl ?_
              show Steps p.tables e below (T47.setTop (mkF m 214 #[.val (.int p0), .val (.int p1), .val (.int p2), .val (.int (v0_5 p0)), .val (.int (p1 &&& (7 : Int32))), .val (.int (p2.toInt8.toInt32)), .val (.ref b2), .val (.ref b47), .val (.int (6 : Int32)), .val (.int (v0_5 p0)), .unset, .unset] [(.ref b47)])) t
              refine XS.iconst X47.here hx rfl (hb hby at_214) ?_
              show Steps p.tables e below (T47.setTop (mkF m 215 #[.val (.int p0), .val (.int p1), .val (.int p2), .val (.int (v0_5 p0)), .val (.int (p1 &&& (7 : Int32))), .val (.int (p2.toInt8.toInt32)), .val (.ref b2), .val (.ref b47), .val (.int (6 : Int32)), .val (.int (v0_5 p0)), .unset, .unset] [(.int (0 : Int32)), (.ref b47)])) t
              refine XS.bipush X47.here hx rfl (hb hby at_215) ?_
              exact k
            obtain ⟨T80, h80, X80, e80, W80, V80, st80⟩ := own_bst X47 hx hZ e47 V47 (j := (0 : Int32)) (by decide) (by decide) (g := (mkF m 217 #[.val (.int p0), .val (.int p1), .val (.int p2), .val (.int (v0_5 p0)), .val (.int (p1 &&& (7 : Int32))), .val (.int (p2.toInt8.toInt32)), .val (.ref b2), .val (.ref b47), .val (.int (6 : Int32)), .val (.int (v0_5 p0)), .unset, .unset] [(.int (92 : Int32)), (.int (0 : Int32)), (.ref b47)])) rfl rfl (hb hby at_217)
            have V80' : own_By Z h80 b47 6 B0_217 := V80
            have N80 := Fr.snoc X80 N44 g_b47
            have k81 : own_Go p e below (s₁.setTop (entryFrame m #[(.int p0), (.int p1), (.int p2)] maxLocals)) (T80.setTop (mkF m 218 #[.val (.int p0), .val (.int p1), .val (.int p2), .val (.int (v0_5 p0)), .val (.int (p1 &&& (7 : Int32))), .val (.int (p2.toInt8.toInt32)), .val (.ref b2), .val (.ref b47), .val (.int (6 : Int32)), .val (.int (v0_5 p0)), .unset, .unset] [])) := fun t k => k79 t (st80 t k)
            have k82 : own_Go p e below (s₁.setTop (entryFrame m #[(.int p0), (.int p1), (.int p2)] maxLocals)) (T80.setTop (mkF m 223 #[.val (.int p0), .val (.int p1), .val (.int p2), .val (.int (v0_5 p0)), .val (.int (p1 &&& (7 : Int32))), .val (.int (p2.toInt8.toInt32)), .val (.ref b2), .val (.ref b47), .val (.int (6 : Int32)), .val (.int (v0_5 p0)), .unset, .unset] [(.int (117 : Int32)), (.int (1 : Int32)), (.ref b47)])) := by
              intro t k
              refine k81 t ?_
              show Steps p.tables e below (T80.setTop (mkF m 218 #[.val (.int p0), .val (.int p1), .val (.int p2), .val (.int (v0_5 p0)), .val (.int (p1 &&& (7 : Int32))), .val (.int (p2.toInt8.toInt32)), .val (.ref b2), .val (.ref b47), .val (.int (6 : Int32)), .val (.int (v0_5 p0)), .unset, .unset] [])) t
              refine XS.aload X80.here hx rfl (hb hby at_218) rfl rfl ?_
              show Steps p.tables e below (T80.setTop (mkF m 220 #[.val (.int p0), .val (.int p1), .val (.int p2), .val (.int (v0_5 p0)), .val (.int (p1 &&& (7 : Int32))), .val (.int (p2.toInt8.toInt32)), .val (.ref b2), .val (.ref b47), .val (.int (6 : Int32)), .val (.int (v0_5 p0)), .unset, .unset] [(.ref b47)])) t
              refine XS.iconst X80.here hx rfl (hb hby at_220) ?_
              show Steps p.tables e below (T80.setTop (mkF m 221 #[.val (.int p0), .val (.int p1), .val (.int p2), .val (.int (v0_5 p0)), .val (.int (p1 &&& (7 : Int32))), .val (.int (p2.toInt8.toInt32)), .val (.ref b2), .val (.ref b47), .val (.int (6 : Int32)), .val (.int (v0_5 p0)), .unset, .unset] [(.int (1 : Int32)), (.ref b47)])) t
              refine XS.bipush X80.here hx rfl (hb hby at_221) ?_
              exact k
            obtain ⟨T83, h83, X83, e83, W83, V83, st83⟩ := own_bst X80 hx hZ e80 V80' (j := (1 : Int32)) (by decide) (by decide) (g := (mkF m 223 #[.val (.int p0), .val (.int p1), .val (.int p2), .val (.int (v0_5 p0)), .val (.int (p1 &&& (7 : Int32))), .val (.int (p2.toInt8.toInt32)), .val (.ref b2), .val (.ref b47), .val (.int (6 : Int32)), .val (.int (v0_5 p0)), .unset, .unset] [(.int (117 : Int32)), (.int (1 : Int32)), (.ref b47)])) rfl rfl (hb hby at_223)
            have V83' : own_By Z h83 b47 6 B0_223 := V83
            have N83 := Fr.snoc X83 N80 g_b47
            have k84 : own_Go p e below (s₁.setTop (entryFrame m #[(.int p0), (.int p1), (.int p2)] maxLocals)) (T83.setTop (mkF m 224 #[.val (.int p0), .val (.int p1), .val (.int p2), .val (.int (v0_5 p0)), .val (.int (p1 &&& (7 : Int32))), .val (.int (p2.toInt8.toInt32)), .val (.ref b2), .val (.ref b47), .val (.int (6 : Int32)), .val (.int (v0_5 p0)), .unset, .unset] [])) := fun t k => k82 t (st83 t k)
            have k85 : own_Go p e below (s₁.setTop (entryFrame m #[(.int p0), (.int p1), (.int p2)] maxLocals)) (T83.setTop (mkF m 233 #[.val (.int p0), .val (.int p1), .val (.int p2), .val (.int (v0_5 p0)), .val (.int (p1 &&& (7 : Int32))), .val (.int (p2.toInt8.toInt32)), .val (.ref b2), .val (.ref b47), .val (.int (6 : Int32)), .val (.int (v0_5 p0)), .unset, .unset] [(.int ((v0_5 p0) / (4096 : Int32))), (.int (2 : Int32)), (.ref b47)])) := by
              intro t k
              refine k84 t ?_
              show Steps p.tables e below (T83.setTop (mkF m 224 #[.val (.int p0), .val (.int p1), .val (.int p2), .val (.int (v0_5 p0)), .val (.int (p1 &&& (7 : Int32))), .val (.int (p2.toInt8.toInt32)), .val (.ref b2), .val (.ref b47), .val (.int (6 : Int32)), .val (.int (v0_5 p0)), .unset, .unset] [])) t
              refine XS.aload X83.here hx rfl (hb hby at_224) rfl rfl ?_
              show Steps p.tables e below (T83.setTop (mkF m 226 #[.val (.int p0), .val (.int p1), .val (.int p2), .val (.int (v0_5 p0)), .val (.int (p1 &&& (7 : Int32))), .val (.int (p2.toInt8.toInt32)), .val (.ref b2), .val (.ref b47), .val (.int (6 : Int32)), .val (.int (v0_5 p0)), .unset, .unset] [(.ref b47)])) t
              refine XS.iconst X83.here hx rfl (hb hby at_226) ?_
              show Steps p.tables e below (T83.setTop (mkF m 227 #[.val (.int p0), .val (.int p1), .val (.int p2), .val (.int (v0_5 p0)), .val (.int (p1 &&& (7 : Int32))), .val (.int (p2.toInt8.toInt32)), .val (.ref b2), .val (.ref b47), .val (.int (6 : Int32)), .val (.int (v0_5 p0)), .unset, .unset] [(.int (2 : Int32)), (.ref b47)])) t
              refine XS.iload X83.here hx rfl (hb hby at_227) rfl ?_
              show Steps p.tables e below (T83.setTop (mkF m 229 #[.val (.int p0), .val (.int p1), .val (.int p2), .val (.int (v0_5 p0)), .val (.int (p1 &&& (7 : Int32))), .val (.int (p2.toInt8.toInt32)), .val (.ref b2), .val (.ref b47), .val (.int (6 : Int32)), .val (.int (v0_5 p0)), .unset, .unset] [(.int (v0_5 p0)), (.int (2 : Int32)), (.ref b47)])) t
              refine XS.sipush X83.here hx rfl (hb hby at_229) ?_
              show Steps p.tables e below (T83.setTop (mkF m 232 #[.val (.int p0), .val (.int p1), .val (.int p2), .val (.int (v0_5 p0)), .val (.int (p1 &&& (7 : Int32))), .val (.int (p2.toInt8.toInt32)), .val (.ref b2), .val (.ref b47), .val (.int (6 : Int32)), .val (.int (v0_5 p0)), .unset, .unset] [(.int (4096 : Int32)), (.int (v0_5 p0)), (.int (2 : Int32)), (.ref b47)])) t
              refine XS.idiv X83.here hx rfl (hb hby at_232) rfl (by decide) ?_
              exact k
            obtain ⟨_, _, ⟨T86, L86, kk86, n86⟩, -, X86, ⟨Lc86, hQ86, l86, y86, z86⟩, st86⟩ := Jvm.LawKit.callS X83 hx (y := (⟨"com/example/segmentry/segmentry/io/JsonTextEscapePinLaw", "hex", "(I)B"⟩ : MethodName)) hown (mvT hZ (hw _ (List.mem_of_getElem? (i := 2) rfl))) (mvT hZ (hw _ (List.mem_of_getElem? (i := 3) rfl))) (mvT hZ (hw _ (List.mem_of_getElem? (i := 4) rfl))) (mvT hZ (hw _ (List.mem_of_getElem? (i := 5) rfl))) (by decide) (backOf (W := 2) (rm1 l Z a0 hw [] ((v0_5 p0) / (4096 : Int32))  h83 n0 (Nat.le_trans (Nat.le_trans (Nat.le_trans (Nat.le_trans (Nat.le_trans (Nat.le_trans (Nat.le_trans (Nat.le_trans (Nat.le_trans (Nat.le_trans (Nat.le_trans (Nat.le_trans (Nat.le_trans (Nat.le_trans (Nat.le_trans (Nat.le_trans (Nat.le_trans (Nat.le_trans Z0 E2.1) (Keep.of_wr W5).1) (Keep.of_wr W8).1) (Keep.of_wr W11).1) (Keep.of_wr W14).1) (Keep.of_wr W17).1) (Keep.of_wr W20).1) (Keep.of_wr W23).1) (Keep.of_wr W26).1) (Keep.of_wr W29).1) (Keep.of_wr W32).1) (Keep.of_wr W35).1) (Keep.of_wr W38).1) (Keep.of_wr W41).1) (Keep.of_wr W44).1) E47.1) (Keep.of_wr W80).1) (Keep.of_wr W83).1) ) hZ (hw _ (List.mem_of_getElem? (i := 5) rfl)) (hw _ (List.mem_of_getElem? (i := 4) rfl)) (by decide) (by decide)) (g := (mkF m 233 #[.val (.int p0), .val (.int p1), .val (.int p2), .val (.int (v0_5 p0)), .val (.int (p1 &&& (7 : Int32))), .val (.int (p2.toInt8.toInt32)), .val (.ref b2), .val (.ref b47), .val (.int (6 : Int32)), .val (.int (v0_5 p0)), .unset, .unset] [(.int ((v0_5 p0) / (4096 : Int32))), (.int (2 : Int32)), (.ref b47)])) rfl (by rw [hml]; rfl) (argsL := [(.int ((v0_5 p0) / (4096 : Int32)))]) (rest := [(.int (2 : Int32)), (.ref b47)]) (lenOf pd_0 rfl) rfl (by show 2 * 0 + _ ≤ _; exact Nat.le_of_eq rfl) (hb hby at_233) (fun _ _ => ⟨rfl, e83, (by decide : 2 + 0 ≤ _), (by decide : 20 + 0 ≤ _)⟩)
            dsimp only [Pt.U, Pt.locs, Pt.cells, Pt.slots] at X86 l86 y86 z86 st86 hQ86
            subst l86 y86 z86
            obtain ⟨rfl, N86q, eh86⟩ := hQ86
            have N86 := Fr.app N83 N86q
            have k87 : own_Go p e below (s₁.setTop (entryFrame m #[(.int p0), (.int p1), (.int p2)] maxLocals)) (T86.setTop (mkF m 236 #[.val (.int p0), .val (.int p1), .val (.int p2), .val (.int (v0_5 p0)), .val (.int (p1 &&& (7 : Int32))), .val (.int (p2.toInt8.toInt32)), .val (.ref b2), .val (.ref b47), .val (.int (6 : Int32)), .val (.int (v0_5 p0)), .unset, .unset] [(.int (f1 ((v0_5 p0) / (4096 : Int32)))), (.int (2 : Int32)), (.ref b47)])) := fun t k => k85 t (st86 t k)
            obtain ⟨T88, h88, X88, e88, W88, V88, st88⟩ := own_bst X86 hx hZ eh86 V83' (j := (2 : Int32)) (by decide) (by decide) (g := (mkF m 236 #[.val (.int p0), .val (.int p1), .val (.int p2), .val (.int (v0_5 p0)), .val (.int (p1 &&& (7 : Int32))), .val (.int (p2.toInt8.toInt32)), .val (.ref b2), .val (.ref b47), .val (.int (6 : Int32)), .val (.int (v0_5 p0)), .unset, .unset] [(.int (f1 ((v0_5 p0) / (4096 : Int32)))), (.int (2 : Int32)), (.ref b47)])) rfl rfl (hb hby at_236)
            have V88' : own_By Z h88 b47 6 (B0_236 p0) := V88
            have N88 := Fr.snoc X88 N86 g_b47
            have k89 : own_Go p e below (s₁.setTop (entryFrame m #[(.int p0), (.int p1), (.int p2)] maxLocals)) (T88.setTop (mkF m 237 #[.val (.int p0), .val (.int p1), .val (.int p2), .val (.int (v0_5 p0)), .val (.int (p1 &&& (7 : Int32))), .val (.int (p2.toInt8.toInt32)), .val (.ref b2), .val (.ref b47), .val (.int (6 : Int32)), .val (.int (v0_5 p0)), .unset, .unset] [])) := fun t k => k87 t (st88 t k)
            have k90 : own_Go p e below (s₁.setTop (entryFrame m #[(.int p0), (.int p1), (.int p2)] maxLocals)) (T88.setTop (mkF m 249 #[.val (.int p0), .val (.int p1), .val (.int p2), .val (.int (v0_5 p0)), .val (.int (p1 &&& (7 : Int32))), .val (.int (p2.toInt8.toInt32)), .val (.ref b2), .val (.ref b47), .val (.int (6 : Int32)), .val (.int (v0_5 p0)), .unset, .unset] [(.int (((v0_5 p0) / (256 : Int32)) % (16 : Int32))), (.int (3 : Int32)), (.ref b47)])) := by
              intro t k
              refine k89 t ?_
              show Steps p.tables e below (T88.setTop (mkF m 237 #[.val (.int p0), .val (.int p1), .val (.int p2), .val (.int (v0_5 p0)), .val (.int (p1 &&& (7 : Int32))), .val (.int (p2.toInt8.toInt32)), .val (.ref b2), .val (.ref b47), .val (.int (6 : Int32)), .val (.int (v0_5 p0)), .unset, .unset] [])) t
              refine XS.aload X88.here hx rfl (hb hby at_237) rfl rfl ?_
              show Steps p.tables e below (T88.setTop (mkF m 239 #[.val (.int p0), .val (.int p1), .val (.int p2), .val (.int (v0_5 p0)), .val (.int (p1 &&& (7 : Int32))), .val (.int (p2.toInt8.toInt32)), .val (.ref b2), .val (.ref b47), .val (.int (6 : Int32)), .val (.int (v0_5 p0)), .unset, .unset] [(.ref b47)])) t
              refine XS.iconst X88.here hx rfl (hb hby at_239) ?_
              show Steps p.tables e below (T88.setTop (mkF m 240 #[.val (.int p0), .val (.int p1), .val (.int p2), .val (.int (v0_5 p0)), .val (.int (p1 &&& (7 : Int32))), .val (.int (p2.toInt8.toInt32)), .val (.ref b2), .val (.ref b47), .val (.int (6 : Int32)), .val (.int (v0_5 p0)), .unset, .unset] [(.int (3 : Int32)), (.ref b47)])) t
              refine XS.iload X88.here hx rfl (hb hby at_240) rfl ?_
              show Steps p.tables e below (T88.setTop (mkF m 242 #[.val (.int p0), .val (.int p1), .val (.int p2), .val (.int (v0_5 p0)), .val (.int (p1 &&& (7 : Int32))), .val (.int (p2.toInt8.toInt32)), .val (.ref b2), .val (.ref b47), .val (.int (6 : Int32)), .val (.int (v0_5 p0)), .unset, .unset] [(.int (v0_5 p0)), (.int (3 : Int32)), (.ref b47)])) t
              refine XS.sipush X88.here hx rfl (hb hby at_242) ?_
              show Steps p.tables e below (T88.setTop (mkF m 245 #[.val (.int p0), .val (.int p1), .val (.int p2), .val (.int (v0_5 p0)), .val (.int (p1 &&& (7 : Int32))), .val (.int (p2.toInt8.toInt32)), .val (.ref b2), .val (.ref b47), .val (.int (6 : Int32)), .val (.int (v0_5 p0)), .unset, .unset] [(.int (256 : Int32)), (.int (v0_5 p0)), (.int (3 : Int32)), (.ref b47)])) t
              refine XS.idiv X88.here hx rfl (hb hby at_245) rfl (by decide) ?_
              show Steps p.tables e below (T88.setTop (mkF m 246 #[.val (.int p0), .val (.int p1), .val (.int p2), .val (.int (v0_5 p0)), .val (.int (p1 &&& (7 : Int32))), .val (.int (p2.toInt8.toInt32)), .val (.ref b2), .val (.ref b47), .val (.int (6 : Int32)), .val (.int (v0_5 p0)), .unset, .unset] [(.int ((v0_5 p0) / (256 : Int32))), (.int (3 : Int32)), (.ref b47)])) t
              refine XS.bipush X88.here hx rfl (hb hby at_246) ?_
              show Steps p.tables e below (T88.setTop (mkF m 248 #[.val (.int p0), .val (.int p1), .val (.int p2), .val (.int (v0_5 p0)), .val (.int (p1 &&& (7 : Int32))), .val (.int (p2.toInt8.toInt32)), .val (.ref b2), .val (.ref b47), .val (.int (6 : Int32)), .val (.int (v0_5 p0)), .unset, .unset] [(.int (16 : Int32)), (.int ((v0_5 p0) / (256 : Int32))), (.int (3 : Int32)), (.ref b47)])) t
              refine iremM X88 hx rfl (hb hby at_248) rfl (by decide) ?_
              exact k
            obtain ⟨_, _, ⟨T91, L91, kk91, n91⟩, -, X91, ⟨Lc91, hQ91, l91, y91, z91⟩, st91⟩ := Jvm.LawKit.callS X88 hx (y := (⟨"com/example/segmentry/segmentry/io/JsonTextEscapePinLaw", "hex", "(I)B"⟩ : MethodName)) hown (mvT hZ (hw _ (List.mem_of_getElem? (i := 2) rfl))) (mvT hZ (hw _ (List.mem_of_getElem? (i := 3) rfl))) (mvT hZ (hw _ (List.mem_of_getElem? (i := 4) rfl))) (mvT hZ (hw _ (List.mem_of_getElem? (i := 5) rfl))) (by decide) (backOf (W := 2) (rm1 l Z a0 hw [] (((v0_5 p0) / (256 : Int32)) % (16 : Int32))  h88 n0 (Nat.le_trans (Nat.le_trans (Nat.le_trans (Nat.le_trans (Nat.le_trans (Nat.le_trans (Nat.le_trans (Nat.le_trans (Nat.le_trans (Nat.le_trans (Nat.le_trans (Nat.le_trans (Nat.le_trans (Nat.le_trans (Nat.le_trans (Nat.le_trans (Nat.le_trans (Nat.le_trans (Nat.le_trans Z0 E2.1) (Keep.of_wr W5).1) (Keep.of_wr W8).1) (Keep.of_wr W11).1) (Keep.of_wr W14).1) (Keep.of_wr W17).1) (Keep.of_wr W20).1) (Keep.of_wr W23).1) (Keep.of_wr W26).1) (Keep.of_wr W29).1) (Keep.of_wr W32).1) (Keep.of_wr W35).1) (Keep.of_wr W38).1) (Keep.of_wr W41).1) (Keep.of_wr W44).1) E47.1) (Keep.of_wr W80).1) (Keep.of_wr W83).1) (Keep.of_wr W88).1) ) hZ (hw _ (List.mem_of_getElem? (i := 5) rfl)) (hw _ (List.mem_of_getElem? (i := 4) rfl)) (by decide) (by decide)) (g := (mkF m 249 #[.val (.int p0), .val (.int p1), .val (.int p2), .val (.int (v0_5 p0)), .val (.int (p1 &&& (7 : Int32))), .val (.int (p2.toInt8.toInt32)), .val (.ref b2), .val (.ref b47), .val (.int (6 : Int32)), .val (.int (v0_5 p0)), .unset, .unset] [(.int (((v0_5 p0) / (256 : Int32)) % (16 : Int32))), (.int (3 : Int32)), (.ref b47)])) rfl (by rw [hml]; rfl) (argsL := [(.int (((v0_5 p0) / (256 : Int32)) % (16 : Int32)))]) (rest := [(.int (3 : Int32)), (.ref b47)]) (lenOf pd_0 rfl) rfl (by show 2 * 0 + _ ≤ _; exact Nat.le_of_eq rfl) (hb hby at_249) (fun _ _ => ⟨rfl, e88, (by decide : 2 + 0 ≤ _), (by decide : 20 + 0 ≤ _)⟩)
            dsimp only [Pt.U, Pt.locs, Pt.cells, Pt.slots] at X91 l91 y91 z91 st91 hQ91
            subst l91 y91 z91
            obtain ⟨rfl, N91q, eh91⟩ := hQ91
            have N91 := Fr.app N88 N91q
            have k92 : own_Go p e below (s₁.setTop (entryFrame m #[(.int p0), (.int p1), (.int p2)] maxLocals)) (T91.setTop (mkF m 252 #[.val (.int p0), .val (.int p1), .val (.int p2), .val (.int (v0_5 p0)), .val (.int (p1 &&& (7 : Int32))), .val (.int (p2.toInt8.toInt32)), .val (.ref b2), .val (.ref b47), .val (.int (6 : Int32)), .val (.int (v0_5 p0)), .unset, .unset] [(.int (f1 (((v0_5 p0) / (256 : Int32)) % (16 : Int32)))), (.int (3 : Int32)), (.ref b47)])) := fun t k => k90 t (st91 t k)
            obtain ⟨T93, h93, X93, e93, W93, V93, st93⟩ := own_bst X91 hx hZ eh91 V88' (j := (3 : Int32)) (by decide) (by decide) (g := (mkF m 252 #[.val (.int p0), .val (.int p1), .val (.int p2), .val (.int (v0_5 p0)), .val (.int (p1 &&& (7 : Int32))), .val (.int (p2.toInt8.toInt32)), .val (.ref b2), .val (.ref b47), .val (.int (6 : Int32)), .val (.int (v0_5 p0)), .unset, .unset] [(.int (f1 (((v0_5 p0) / (256 : Int32)) % (16 : Int32)))), (.int (3 : Int32)), (.ref b47)])) rfl rfl (hb hby at_252)
            have V93' : own_By Z h93 b47 6 (B0_252 p0) := V93
            have N93 := Fr.snoc X93 N91 g_b47
            have k94 : own_Go p e below (s₁.setTop (entryFrame m #[(.int p0), (.int p1), (.int p2)] maxLocals)) (T93.setTop (mkF m 253 #[.val (.int p0), .val (.int p1), .val (.int p2), .val (.int (v0_5 p0)), .val (.int (p1 &&& (7 : Int32))), .val (.int (p2.toInt8.toInt32)), .val (.ref b2), .val (.ref b47), .val (.int (6 : Int32)), .val (.int (v0_5 p0)), .unset, .unset] [])) := fun t k => k92 t (st93 t k)
            have k95 : own_Go p e below (s₁.setTop (entryFrame m #[(.int p0), (.int p1), (.int p2)] maxLocals)) (T93.setTop (mkF m 264 #[.val (.int p0), .val (.int p1), .val (.int p2), .val (.int (v0_5 p0)), .val (.int (p1 &&& (7 : Int32))), .val (.int (p2.toInt8.toInt32)), .val (.ref b2), .val (.ref b47), .val (.int (6 : Int32)), .val (.int (v0_5 p0)), .unset, .unset] [(.int (((v0_5 p0) / (16 : Int32)) % (16 : Int32))), (.int (4 : Int32)), (.ref b47)])) := by
              intro t k
              refine k94 t ?_
              show Steps p.tables e below (T93.setTop (mkF m 253 #[.val (.int p0), .val (.int p1), .val (.int p2), .val (.int (v0_5 p0)), .val (.int (p1 &&& (7 : Int32))), .val (.int (p2.toInt8.toInt32)), .val (.ref b2), .val (.ref b47), .val (.int (6 : Int32)), .val (.int (v0_5 p0)), .unset, .unset] [])) t
              refine XS.aload X93.here hx rfl (hb hby at_253) rfl rfl ?_
              show Steps p.tables e below (T93.setTop (mkF m 255 #[.val (.int p0), .val (.int p1), .val (.int p2), .val (.int (v0_5 p0)), .val (.int (p1 &&& (7 : Int32))), .val (.int (p2.toInt8.toInt32)), .val (.ref b2), .val (.ref b47), .val (.int (6 : Int32)), .val (.int (v0_5 p0)), .unset, .unset] [(.ref b47)])) t
              refine XS.iconst X93.here hx rfl (hb hby at_255) ?_
              show Steps p.tables e below (T93.setTop (mkF m 256 #[.val (.int p0), .val (.int p1), .val (.int p2), .val (.int (v0_5 p0)), .val (.int (p1 &&& (7 : Int32))), .val (.int (p2.toInt8.toInt32)), .val (.ref b2), .val (.ref b47), .val (.int (6 : Int32)), .val (.int (v0_5 p0)), .unset, .unset] [(.int (4 : Int32)), (.ref b47)])) t
              refine XS.iload X93.here hx rfl (hb hby at_256) rfl ?_
              show Steps p.tables e below (T93.setTop (mkF m 258 #[.val (.int p0), .val (.int p1), .val (.int p2), .val (.int (v0_5 p0)), .val (.int (p1 &&& (7 : Int32))), .val (.int (p2.toInt8.toInt32)), .val (.ref b2), .val (.ref b47), .val (.int (6 : Int32)), .val (.int (v0_5 p0)), .unset, .unset] [(.int (v0_5 p0)), (.int (4 : Int32)), (.ref b47)])) t
              refine XS.bipush X93.here hx rfl (hb hby at_258) ?_
              show Steps p.tables e below (T93.setTop (mkF m 260 #[.val (.int p0), .val (.int p1), .val (.int p2), .val (.int (v0_5 p0)), .val (.int (p1 &&& (7 : Int32))), .val (.int (p2.toInt8.toInt32)), .val (.ref b2), .val (.ref b47), .val (.int (6 : Int32)), .val (.int (v0_5 p0)), .unset, .unset] [(.int (16 : Int32)), (.int (v0_5 p0)), (.int (4 : Int32)), (.ref b47)])) t
              refine XS.idiv X93.here hx rfl (hb hby at_260) rfl (by decide) ?_
              show Steps p.tables e below (T93.setTop (mkF m 261 #[.val (.int p0), .val (.int p1), .val (.int p2), .val (.int (v0_5 p0)), .val (.int (p1 &&& (7 : Int32))), .val (.int (p2.toInt8.toInt32)), .val (.ref b2), .val (.ref b47), .val (.int (6 : Int32)), .val (.int (v0_5 p0)), .unset, .unset] [(.int ((v0_5 p0) / (16 : Int32))), (.int (4 : Int32)), (.ref b47)])) t
              refine XS.bipush X93.here hx rfl (hb hby at_261) ?_
              show Steps p.tables e below (T93.setTop (mkF m 263 #[.val (.int p0), .val (.int p1), .val (.int p2), .val (.int (v0_5 p0)), .val (.int (p1 &&& (7 : Int32))), .val (.int (p2.toInt8.toInt32)), .val (.ref b2), .val (.ref b47), .val (.int (6 : Int32)), .val (.int (v0_5 p0)), .unset, .unset] [(.int (16 : Int32)), (.int ((v0_5 p0) / (16 : Int32))), (.int (4 : Int32)), (.ref b47)])) t
              refine iremM X93 hx rfl (hb hby at_263) rfl (by decide) ?_
              exact k
            obtain ⟨_, _, ⟨T96, L96, kk96, n96⟩, -, X96, ⟨Lc96, hQ96, l96, y96, z96⟩, st96⟩ := Jvm.LawKit.callS X93 hx (y := (⟨"com/example/segmentry/segmentry/io/JsonTextEscapePinLaw", "hex", "(I)B"⟩ : MethodName)) hown (mvT hZ (hw _ (List.mem_of_getElem? (i := 2) rfl))) (mvT hZ (hw _ (List.mem_of_getElem? (i := 3) rfl))) (mvT hZ (hw _ (List.mem_of_getElem? (i := 4) rfl))) (mvT hZ (hw _ (List.mem_of_getElem? (i := 5) rfl))) (by decide) (backOf (W := 2) (rm1 l Z a0 hw [] (((v0_5 p0) / (16 : Int32)) % (16 : Int32))  h93 n0 (Nat.le_trans (Nat.le_trans (Nat.le_trans (Nat.le_trans (Nat.le_trans (Nat.le_trans (Nat.le_trans (Nat.le_trans (Nat.le_trans (Nat.le_trans (Nat.le_trans (Nat.le_trans (Nat.le_trans (Nat.le_trans (Nat.le_trans (Nat.le_trans (Nat.le_trans (Nat.le_trans (Nat.le_trans (Nat.le_trans Z0 E2.1) (Keep.of_wr W5).1) (Keep.of_wr W8).1) (Keep.of_wr W11).1) (Keep.of_wr W14).1) (Keep.of_wr W17).1) (Keep.of_wr W20).1) (Keep.of_wr W23).1) (Keep.of_wr W26).1) (Keep.of_wr W29).1) (Keep.of_wr W32).1) (Keep.of_wr W35).1) (Keep.of_wr W38).1) (Keep.of_wr W41).1) (Keep.of_wr W44).1) E47.1) (Keep.of_wr W80).1) (Keep.of_wr W83).1) (Keep.of_wr W88).1) (Keep.of_wr W93).1) ) hZ (hw _ (List.mem_of_getElem? (i := 5) rfl)) (hw _ (List.mem_of_getElem? (i := 4) rfl)) (by decide) (by decide)) (g := (mkF m 264 #[.val (.int p0), .val (.int p1), .val (.int p2), .val (.int (v0_5 p0)), .val (.int (p1 &&& (7 : Int32))), .val (.int (p2.toInt8.toInt32)), .val (.ref b2), .val (.ref b47), .val (.int (6 : Int32)), .val (.int (v0_5 p0)), .unset, .unset] [(.int (((v0_5 p0) / (16 : Int32)) % (16 : Int32))), (.int (4 : Int32)), (.ref b47)])) rfl (by rw [hml]; rfl) (argsL := [(.int (((v0_5 p0) / (16 : Int32)) % (16 : Int32)))]) (rest := [(.int (4 : Int32)), (.ref b47)]) (lenOf pd_0 rfl) rfl (by show 2 * 0 + _ ≤ _; exact Nat.le_of_eq rfl) (hb hby at_264) (fun _ _ => ⟨rfl, e93, (by decide : 2 + 0 ≤ _), (by decide : 20 + 0 ≤ _)⟩)
            dsimp only [Pt.U, Pt.locs, Pt.cells, Pt.slots] at X96 l96 y96 z96 st96 hQ96
            subst l96 y96 z96
            obtain ⟨rfl, N96q, eh96⟩ := hQ96
            have N96 := Fr.app N93 N96q
            have k97 : own_Go p e below (s₁.setTop (entryFrame m #[(.int p0), (.int p1), (.int p2)] maxLocals)) (T96.setTop (mkF m 267 #[.val (.int p0), .val (.int p1), .val (.int p2), .val (.int (v0_5 p0)), .val (.int (p1 &&& (7 : Int32))), .val (.int (p2.toInt8.toInt32)), .val (.ref b2), .val (.ref b47), .val (.int (6 : Int32)), .val (.int (v0_5 p0)), .unset, .unset] [(.int (f1 (((v0_5 p0) / (16 : Int32)) % (16 : Int32)))), (.int (4 : Int32)), (.ref b47)])) := fun t k => k95 t (st96 t k)
            obtain ⟨T98, h98, X98, e98, W98, V98, st98⟩ := own_bst X96 hx hZ eh96 V93' (j := (4 : Int32)) (by decide) (by decide) (g := (mkF m 267 #[.val (.int p0), .val (.int p1), .val (.int p2), .val (.int (v0_5 p0)), .val (.int (p1 &&& (7 : Int32))), .val (.int (p2.toInt8.toInt32)), .val (.ref b2), .val (.ref b47), .val (.int (6 : Int32)), .val (.int (v0_5 p0)), .unset, .unset] [(.int (f1 (((v0_5 p0) / (16 : Int32)) % (16 : Int32)))), (.int (4 : Int32)), (.ref b47)])) rfl rfl (hb hby at_267)
            have V98' : own_By Z h98 b47 6 (B0_267 p0) := V98
            have N98 := Fr.snoc X98 N96 g_b47
            have k99 : own_Go p e below (s₁.setTop (entryFrame m #[(.int p0), (.int p1), (.int p2)] maxLocals)) (T98.setTop (mkF m 268 #[.val (.int p0), .val (.int p1), .val (.int p2), .val (.int (v0_5 p0)), .val (.int (p1 &&& (7 : Int32))), .val (.int (p2.toInt8.toInt32)), .val (.ref b2), .val (.ref b47), .val (.int (6 : Int32)), .val (.int (v0_5 p0)), .unset, .unset] [])) := fun t k => k97 t (st98 t k)
            have k100 : own_Go p e below (s₁.setTop (entryFrame m #[(.int p0), (.int p1), (.int p2)] maxLocals)) (T98.setTop (mkF m 276 #[.val (.int p0), .val (.int p1), .val (.int p2), .val (.int (v0_5 p0)), .val (.int (p1 &&& (7 : Int32))), .val (.int (p2.toInt8.toInt32)), .val (.ref b2), .val (.ref b47), .val (.int (6 : Int32)), .val (.int (v0_5 p0)), .unset, .unset] [(.int ((v0_5 p0) % (16 : Int32))), (.int (5 : Int32)), (.ref b47)])) := by
              intro t k
              refine k99 t ?_
              show Steps p.tables e below (T98.setTop (mkF m 268 #[.val (.int p0), .val (.int p1), .val (.int p2), .val (.int (v0_5 p0)), .val (.int (p1 &&& (7 : Int32))), .val (.int (p2.toInt8.toInt32)), .val (.ref b2), .val (.ref b47), .val (.int (6 : Int32)), .val (.int (v0_5 p0)), .unset, .unset] [])) t
              refine XS.aload X98.here hx rfl (hb hby at_268) rfl rfl ?_
              show Steps p.tables e below (T98.setTop (mkF m 270 #[.val (.int p0), .val (.int p1), .val (.int p2), .val (.int (v0_5 p0)), .val (.int (p1 &&& (7 : Int32))), .val (.int (p2.toInt8.toInt32)), .val (.ref b2), .val (.ref b47), .val (.int (6 : Int32)), .val (.int (v0_5 p0)), .unset, .unset] [(.ref b47)])) t
              refine XS.iconst X98.here hx rfl (hb hby at_270) ?_
              show Steps p.tables e below (T98.setTop (mkF m 271 #[.val (.int p0), .val (.int p1), .val (.int p2), .val (.int (v0_5 p0)), .val (.int (p1 &&& (7 : Int32))), .val (.int (p2.toInt8.toInt32)), .val (.ref b2), .val (.ref b47), .val (.int (6 : Int32)), .val (.int (v0_5 p0)), .unset, .unset] [(.int (5 : Int32)), (.ref b47)])) t
              refine XS.iload X98.here hx rfl (hb hby at_271) rfl ?_
              show Steps p.tables e below (T98.setTop (mkF m 273 #[.val (.int p0), .val (.int p1), .val (.int p2), .val (.int (v0_5 p0)), .val (.int (p1 &&& (7 : Int32))), .val (.int (p2.toInt8.toInt32)), .val (.ref b2), .val (.ref b47), .val (.int (6 : Int32)), .val (.int (v0_5 p0)), .unset, .unset] [(.int (v0_5 p0)), (.int (5 : Int32)), (.ref b47)])) t
              refine XS.bipush X98.here hx rfl (hb hby at_273) ?_
              show Steps p.tables e below (T98.setTop (mkF m 275 #[.val (.int p0), .val (.int p1), .val (.int p2), .val (.int (v0_5 p0)), .val (.int (p1 &&& (7 : Int32))), .val (.int (p2.toInt8.toInt32)), .val (.ref b2), .val (.ref b47), .val (.int (6 : Int32)), .val (.int (v0_5 p0)), .unset, .unset] [(.int (16 : Int32)), (.int (v0_5 p0)), (.int (5 : Int32)), (.ref b47)])) t
              refine iremM X98 hx rfl (hb hby at_275) rfl (by decide) ?_
              exact k
            obtain ⟨_, _, ⟨T101, L101, kk101, n101⟩, -, X101, ⟨Lc101, hQ101, l101, y101, z101⟩, st101⟩ := Jvm.LawKit.callS X98 hx (y := (⟨"com/example/segmentry/segmentry/io/JsonTextEscapePinLaw", "hex", "(I)B"⟩ : MethodName)) hown (mvT hZ (hw _ (List.mem_of_getElem? (i := 2) rfl))) (mvT hZ (hw _ (List.mem_of_getElem? (i := 3) rfl))) (mvT hZ (hw _ (List.mem_of_getElem? (i := 4) rfl))) (mvT hZ (hw _ (List.mem_of_getElem? (i := 5) rfl))) (by decide) (backOf (W := 2) (rm1 l Z a0 hw [] ((v0_5 p0) % (16 : Int32))  h98 n0 (Nat.le_trans (Nat.le_trans (Nat.le_trans (Nat.le_trans (Nat.le_trans (Nat.le_trans (Nat.le_trans (Nat.le_trans (Nat.le_trans (Nat.le_trans (Nat.le_trans (Nat.le_trans (Nat.le_trans (Nat.le_trans (Nat.le_trans (Nat.le_trans (Nat.le_trans (Nat.le_trans (Nat.le_trans (Nat.le_trans (Nat.le_trans Z0 E2.1) (Keep.of_wr W5).1) (Keep.of_wr W8).1) (Keep.of_wr W11).1) (Keep.of_wr W14).1) (Keep.of_wr W17).1) (Keep.of_wr W20).1) (Keep.of_wr W23).1) (Keep.of_wr W26).1) (Keep.of_wr W29).1) (Keep.of_wr W32).1) (Keep.of_wr W35).1) (Keep.of_wr W38).1) (Keep.of_wr W41).1) (Keep.of_wr W44).1) E47.1) (Keep.of_wr W80).1) (Keep.of_wr W83).1) (Keep.of_wr W88).1) (Keep.of_wr W93).1) (Keep.of_wr W98).1) ) hZ (hw _ (List.mem_of_getElem? (i := 5) rfl)) (hw _ (List.mem_of_getElem? (i := 4) rfl)) (by decide) (by decide)) (g := (mkF m 276 #[.val (.int p0), .val (.int p1), .val (.int p2), .val (.int (v0_5 p0)), .val (.int (p1 &&& (7 : Int32))), .val (.int (p2.toInt8.toInt32)), .val (.ref b2), .val (.ref b47), .val (.int (6 : Int32)), .val (.int (v0_5 p0)), .unset, .unset] [(.int ((v0_5 p0) % (16 : Int32))), (.int (5 : Int32)), (.ref b47)])) rfl (by rw [hml]; rfl) (argsL := [(.int ((v0_5 p0) % (16 : Int32)))]) (rest := [(.int (5 : Int32)), (.ref b47)]) (lenOf pd_0 rfl) rfl (by show 2 * 0 + _ ≤ _; exact Nat.le_of_eq rfl) (hb hby at_276) (fun _ _ => ⟨rfl, e98, (by decide : 2 + 0 ≤ _), (by decide : 20 + 0 ≤ _)⟩)
            dsimp only [Pt.U, Pt.locs, Pt.cells, Pt.slots] at X101 l101 y101 z101 st101 hQ101
            subst l101 y101 z101
            obtain ⟨rfl, N101q, eh101⟩ := hQ101
            have N101 := Fr.app N98 N101q
            have k102 : own_Go p e below (s₁.setTop (entryFrame m #[(.int p0), (.int p1), (.int p2)] maxLocals)) (T101.setTop (mkF m 279 #[.val (.int p0), .val (.int p1), .val (.int p2), .val (.int (v0_5 p0)), .val (.int (p1 &&& (7 : Int32))), .val (.int (p2.toInt8.toInt32)), .val (.ref b2), .val (.ref b47), .val (.int (6 : Int32)), .val (.int (v0_5 p0)), .unset, .unset] [(.int (f1 ((v0_5 p0) % (16 : Int32)))), (.int (5 : Int32)), (.ref b47)])) := fun t k => k100 t (st101 t k)
            obtain ⟨T103, h103, X103, e103, W103, V103, st103⟩ := own_bst X101 hx hZ eh101 V98' (j := (5 : Int32)) (by decide) (by decide) (g := (mkF m 279 #[.val (.int p0), .val (.int p1), .val (.int p2), .val (.int (v0_5 p0)), .val (.int (p1 &&& (7 : Int32))), .val (.int (p2.toInt8.toInt32)), .val (.ref b2), .val (.ref b47), .val (.int (6 : Int32)), .val (.int (v0_5 p0)), .unset, .unset] [(.int (f1 ((v0_5 p0) % (16 : Int32)))), (.int (5 : Int32)), (.ref b47)])) rfl rfl (hb hby at_279)
            have V103' : own_By Z h103 b47 6 (B0_279 p0) := V103
            have N103 := Fr.snoc X103 N101 g_b47
            have k104 : own_Go p e below (s₁.setTop (entryFrame m #[(.int p0), (.int p1), (.int p2)] maxLocals)) (T103.setTop (mkF m 280 #[.val (.int p0), .val (.int p1), .val (.int p2), .val (.int (v0_5 p0)), .val (.int (p1 &&& (7 : Int32))), .val (.int (p2.toInt8.toInt32)), .val (.ref b2), .val (.ref b47), .val (.int (6 : Int32)), .val (.int (v0_5 p0)), .unset, .unset] [])) := fun t k => k102 t (st103 t k)
            exact ⟨_, _, _, X103, e103, N103, ((((((((((((((((((((((V_H.ext E2).other W5 (Nat.ne_of_lt (Nat.lt_of_lt_of_le V_H.lt (Nat.le_of_eq g2.symm)))).other W8 (Nat.ne_of_lt (Nat.lt_of_lt_of_le V_H.lt (Nat.le_of_eq g2.symm)))).other W11 (Nat.ne_of_lt (Nat.lt_of_lt_of_le V_H.lt (Nat.le_of_eq g2.symm)))).other W14 (Nat.ne_of_lt (Nat.lt_of_lt_of_le V_H.lt (Nat.le_of_eq g2.symm)))).other W17 (Nat.ne_of_lt (Nat.lt_of_lt_of_le V_H.lt (Nat.le_of_eq g2.symm)))).other W20 (Nat.ne_of_lt (Nat.lt_of_lt_of_le V_H.lt (Nat.le_of_eq g2.symm)))).other W23 (Nat.ne_of_lt (Nat.lt_of_lt_of_le V_H.lt (Nat.le_of_eq g2.symm)))).other W26 (Nat.ne_of_lt (Nat.lt_of_lt_of_le V_H.lt (Nat.le_of_eq g2.symm)))).other W29 (Nat.ne_of_lt (Nat.lt_of_lt_of_le V_H.lt (Nat.le_of_eq g2.symm)))).other W32 (Nat.ne_of_lt (Nat.lt_of_lt_of_le V_H.lt (Nat.le_of_eq g2.symm)))).other W35 (Nat.ne_of_lt (Nat.lt_of_lt_of_le V_H.lt (Nat.le_of_eq g2.symm)))).other W38 (Nat.ne_of_lt (Nat.lt_of_lt_of_le V_H.lt (Nat.le_of_eq g2.symm)))).other W41 (Nat.ne_of_lt (Nat.lt_of_lt_of_le V_H.lt (Nat.le_of_eq g2.symm)))).other W44 (Nat.ne_of_lt (Nat.lt_of_lt_of_le V_H.lt (Nat.le_of_eq g2.symm)))).ext E47).other W80 (Nat.ne_of_lt (Nat.lt_of_lt_of_le (((((((((((((((V_H.ext E2).other W5 (Nat.ne_of_lt (Nat.lt_of_lt_of_le V_H.lt (Nat.le_of_eq g2.symm)))).other W8 (Nat.ne_of_lt (Nat.lt_of_lt_of_le V_H.lt (Nat.le_of_eq g2.symm)))).other W11 (Nat.ne_of_lt (Nat.lt_of_lt_of_le V_H.lt (Nat.le_of_eq g2.symm)))).other W14 (Nat.ne_of_lt (Nat.lt_of_lt_of_le V_H.lt (Nat.le_of_eq g2.symm)))).other W17 (Nat.ne_of_lt (Nat.lt_of_lt_of_le V_H.lt (Nat.le_of_eq g2.symm)))).other W20 (Nat.ne_of_lt (Nat.lt_of_lt_of_le V_H.lt (Nat.le_of_eq g2.symm)))).other W23 (Nat.ne_of_lt (Nat.lt_of_lt_of_le V_H.lt (Nat.le_of_eq g2.symm)))).other W26 (Nat.ne_of_lt (Nat.lt_of_lt_of_le V_H.lt (Nat.le_of_eq g2.symm)))).other W29 (Nat.ne_of_lt (Nat.lt_of_lt_of_le V_H.lt (Nat.le_of_eq g2.symm)))).other W32 (Nat.ne_of_lt (Nat.lt_of_lt_of_le V_H.lt (Nat.le_of_eq g2.symm)))).other W35 (Nat.ne_of_lt (Nat.lt_of_lt_of_le V_H.lt (Nat.le_of_eq g2.symm)))).other W38 (Nat.ne_of_lt (Nat.lt_of_lt_of_le V_H.lt (Nat.le_of_eq g2.symm)))).other W41 (Nat.ne_of_lt (Nat.lt_of_lt_of_le V_H.lt (Nat.le_of_eq g2.symm)))).other W44 (Nat.ne_of_lt (Nat.lt_of_lt_of_le V_H.lt (Nat.le_of_eq g2.symm)))).lt (Nat.le_of_eq g47.symm)))).other W83 (Nat.ne_of_lt (Nat.lt_of_lt_of_le (((((((((((((((V_H.ext E2).other W5 (Nat.ne_of_lt (Nat.lt_of_lt_of_le V_H.lt (Nat.le_of_eq g2.symm)))).other W8 (Nat.ne_of_lt (Nat.lt_of_lt_of_le V_H.lt (Nat.le_of_eq g2.symm)))).other W11 (Nat.ne_of_lt (Nat.lt_of_lt_of_le V_H.lt (Nat.le_of_eq g2.symm)))).other W14 (Nat.ne_of_lt (Nat.lt_of_lt_of_le V_H.lt (Nat.le_of_eq g2.symm)))).other W17 (Nat.ne_of_lt (Nat.lt_of_lt_of_le V_H.lt (Nat.le_of_eq g2.symm)))).other W20 (Nat.ne_of_lt (Nat.lt_of_lt_of_le V_H.lt (Nat.le_of_eq g2.symm)))).other W23 (Nat.ne_of_lt (Nat.lt_of_lt_of_le V_H.lt (Nat.le_of_eq g2.symm)))).other W26 (Nat.ne_of_lt (Nat.lt_of_lt_of_le V_H.lt (Nat.le_of_eq g2.symm)))).other W29 (Nat.ne_of_lt (Nat.lt_of_lt_of_le V_H.lt (Nat.le_of_eq g2.symm)))).other W32 (Nat.ne_of_lt (Nat.lt_of_lt_of_le V_H.lt (Nat.le_of_eq g2.symm)))).other W35 (Nat.ne_of_lt (Nat.lt_of_lt_of_le V_H.lt (Nat.le_of_eq g2.symm)))).other W38 (Nat.ne_of_lt (Nat.lt_of_lt_of_le V_H.lt (Nat.le_of_eq g2.symm)))).other W41 (Nat.ne_of_lt (Nat.lt_of_lt_of_le V_H.lt (Nat.le_of_eq g2.symm)))).other W44 (Nat.ne_of_lt (Nat.lt_of_lt_of_le V_H.lt (Nat.le_of_eq g2.symm)))).lt (Nat.le_of_eq g47.symm)))).other W88 (Nat.ne_of_lt (Nat.lt_of_lt_of_le (((((((((((((((V_H.ext E2).other W5 (Nat.ne_of_lt (Nat.lt_of_lt_of_le V_H.lt (Nat.le_of_eq g2.symm)))).other W8 (Nat.ne_of_lt (Nat.lt_of_lt_of_le V_H.lt (Nat.le_of_eq g2.symm)))).other W11 (Nat.ne_of_lt (Nat.lt_of_lt_of_le V_H.lt (Nat.le_of_eq g2.symm)))).other W14 (Nat.ne_of_lt (Nat.lt_of_lt_of_le V_H.lt (Nat.le_of_eq g2.symm)))).other W17 (Nat.ne_of_lt (Nat.lt_of_lt_of_le V_H.lt (Nat.le_of_eq g2.symm)))).other W20 (Nat.ne_of_lt (Nat.lt_of_lt_of_le V_H.lt (Nat.le_of_eq g2.symm)))).other W23 (Nat.ne_of_lt (Nat.lt_of_lt_of_le V_H.lt (Nat.le_of_eq g2.symm)))).other W26 (Nat.ne_of_lt (Nat.lt_of_lt_of_le V_H.lt (Nat.le_of_eq g2.symm)))).other W29 (Nat.ne_of_lt (Nat.lt_of_lt_of_le V_H.lt (Nat.le_of_eq g2.symm)))).other W32 (Nat.ne_of_lt (Nat.lt_of_lt_of_le V_H.lt (Nat.le_of_eq g2.symm)))).other W35 (Nat.ne_of_lt (Nat.lt_of_lt_of_le V_H.lt (Nat.le_of_eq g2.symm)))).other W38 (Nat.ne_of_lt (Nat.lt_of_lt_of_le V_H.lt (Nat.le_of_eq g2.symm)))).other W41 (Nat.ne_of_lt (Nat.lt_of_lt_of_le V_H.lt (Nat.le_of_eq g2.symm)))).other W44 (Nat.ne_of_lt (Nat.lt_of_lt_of_le V_H.lt (Nat.le_of_eq g2.symm)))).lt (Nat.le_of_eq g47.symm)))).other W93 (Nat.ne_of_lt (Nat.lt_of_lt_of_le (((((((((((((((V_H.ext E2).other W5 (Nat.ne_of_lt (Nat.lt_of_lt_of_le V_H.lt (Nat.le_of_eq g2.symm)))).other W8 (Nat.ne_of_lt (Nat.lt_of_lt_of_le V_H.lt (Nat.le_of_eq g2.symm)))).other W11 (Nat.ne_of_lt (Nat.lt_of_lt_of_le V_H.lt (Nat.le_of_eq g2.symm)))).other W14 (Nat.ne_of_lt (Nat.lt_of_lt_of_le V_H.lt (Nat.le_of_eq g2.symm)))).other W17 (Nat.ne_of_lt (Nat.lt_of_lt_of_le V_H.lt (Nat.le_of_eq g2.symm)))).other W20 (Nat.ne_of_lt (Nat.lt_of_lt_of_le V_H.lt (Nat.le_of_eq g2.symm)))).other W23 (Nat.ne_of_lt (Nat.lt_of_lt_of_le V_H.lt (Nat.le_of_eq g2.symm)))).other W26 (Nat.ne_of_lt (Nat.lt_of_lt_of_le V_H.lt (Nat.le_of_eq g2.symm)))).other W29 (Nat.ne_of_lt (Nat.lt_of_lt_of_le V_H.lt (Nat.le_of_eq g2.symm)))).other W32 (Nat.ne_of_lt (Nat.lt_of_lt_of_le V_H.lt (Nat.le_of_eq g2.symm)))).other W35 (Nat.ne_of_lt (Nat.lt_of_lt_of_le V_H.lt (Nat.le_of_eq g2.symm)))).other W38 (Nat.ne_of_lt (Nat.lt_of_lt_of_le V_H.lt (Nat.le_of_eq g2.symm)))).other W41 (Nat.ne_of_lt (Nat.lt_of_lt_of_le V_H.lt (Nat.le_of_eq g2.symm)))).other W44 (Nat.ne_of_lt (Nat.lt_of_lt_of_le V_H.lt (Nat.le_of_eq g2.symm)))).lt (Nat.le_of_eq g47.symm)))).other W98 (Nat.ne_of_lt (Nat.lt_of_lt_of_le (((((((((((((((V_H.ext E2).other W5 (Nat.ne_of_lt (Nat.lt_of_lt_of_le V_H.lt (Nat.le_of_eq g2.symm)))).other W8 (Nat.ne_of_lt (Nat.lt_of_lt_of_le V_H.lt (Nat.le_of_eq g2.symm)))).other W11 (Nat.ne_of_lt (Nat.lt_of_lt_of_le V_H.lt (Nat.le_of_eq g2.symm)))).other W14 (Nat.ne_of_lt (Nat.lt_of_lt_of_le V_H.lt (Nat.le_of_eq g2.symm)))).other W17 (Nat.ne_of_lt (Nat.lt_of_lt_of_le V_H.lt (Nat.le_of_eq g2.symm)))).other W20 (Nat.ne_of_lt (Nat.lt_of_lt_of_le V_H.lt (Nat.le_of_eq g2.symm)))).other W23 (Nat.ne_of_lt (Nat.lt_of_lt_of_le V_H.lt (Nat.le_of_eq g2.symm)))).other W26 (Nat.ne_of_lt (Nat.lt_of_lt_of_le V_H.lt (Nat.le_of_eq g2.symm)))).other W29 (Nat.ne_of_lt (Nat.lt_of_lt_of_le V_H.lt (Nat.le_of_eq g2.symm)))).other W32 (Nat.ne_of_lt (Nat.lt_of_lt_of_le V_H.lt (Nat.le_of_eq g2.symm)))).other W35 (Nat.ne_of_lt (Nat.lt_of_lt_of_le V_H.lt (Nat.le_of_eq g2.symm)))).other W38 (Nat.ne_of_lt (Nat.lt_of_lt_of_le V_H.lt (Nat.le_of_eq g2.symm)))).other W41 (Nat.ne_of_lt (Nat.lt_of_lt_of_le V_H.lt (Nat.le_of_eq g2.symm)))).other W44 (Nat.ne_of_lt (Nat.lt_of_lt_of_le V_H.lt (Nat.le_of_eq g2.symm)))).lt (Nat.le_of_eq g47.symm)))).other W103 (Nat.ne_of_lt (Nat.lt_of_lt_of_le (((((((((((((((V_H.ext E2).other W5 (Nat.ne_of_lt (Nat.lt_of_lt_of_le V_H.lt (Nat.le_of_eq g2.symm)))).other W8 (Nat.ne_of_lt (Nat.lt_of_lt_of_le V_H.lt (Nat.le_of_eq g2.symm)))).other W11 (Nat.ne_of_lt (Nat.lt_of_lt_of_le V_H.lt (Nat.le_of_eq g2.symm)))).other W14 (Nat.ne_of_lt (Nat.lt_of_lt_of_le V_H.lt (Nat.le_of_eq g2.symm)))).other W17 (Nat.ne_of_lt (Nat.lt_of_lt_of_le V_H.lt (Nat.le_of_eq g2.symm)))).other W20 (Nat.ne_of_lt (Nat.lt_of_lt_of_le V_H.lt (Nat.le_of_eq g2.symm)))).other W23 (Nat.ne_of_lt (Nat.lt_of_lt_of_le V_H.lt (Nat.le_of_eq g2.symm)))).other W26 (Nat.ne_of_lt (Nat.lt_of_lt_of_le V_H.lt (Nat.le_of_eq g2.symm)))).other W29 (Nat.ne_of_lt (Nat.lt_of_lt_of_le V_H.lt (Nat.le_of_eq g2.symm)))).other W32 (Nat.ne_of_lt (Nat.lt_of_lt_of_le V_H.lt (Nat.le_of_eq g2.symm)))).other W35 (Nat.ne_of_lt (Nat.lt_of_lt_of_le V_H.lt (Nat.le_of_eq g2.symm)))).other W38 (Nat.ne_of_lt (Nat.lt_of_lt_of_le V_H.lt (Nat.le_of_eq g2.symm)))).other W41 (Nat.ne_of_lt (Nat.lt_of_lt_of_le V_H.lt (Nat.le_of_eq g2.symm)))).other W44 (Nat.ne_of_lt (Nat.lt_of_lt_of_le V_H.lt (Nat.le_of_eq g2.symm)))).lt (Nat.le_of_eq g47.symm)))), ((((((((((((((((((((((S_H.ext E2).wr W5).wr W8).wr W11).wr W14).wr W17).wr W20).wr W23).wr W26).wr W29).wr W32).wr W35).wr W38).wr W41).wr W44).ext E47).wr W80).wr W83).wr W88).wr W93).wr W98).wr W103), (((((((V44'.ext E47).other W80 (Nat.ne_of_lt (Nat.lt_of_lt_of_le V44'.lt (Nat.le_of_eq g47.symm)))).other W83 (Nat.ne_of_lt (Nat.lt_of_lt_of_le V44'.lt (Nat.le_of_eq g47.symm)))).other W88 (Nat.ne_of_lt (Nat.lt_of_lt_of_le V44'.lt (Nat.le_of_eq g47.symm)))).other W93 (Nat.ne_of_lt (Nat.lt_of_lt_of_le V44'.lt (Nat.le_of_eq g47.symm)))).other W98 (Nat.ne_of_lt (Nat.lt_of_lt_of_le V44'.lt (Nat.le_of_eq g47.symm)))).other W103 (Nat.ne_of_lt (Nat.lt_of_lt_of_le V44'.lt (Nat.le_of_eq g47.symm)))), (by rw [show (m0_280_b47 p0) = (B0_279 p0) from (by unfold m0_280_b47; rw [if_neg hc127_51, if_neg hc134_60, if_pos hc160_69, if_neg hc187_71])]; exact V103'), (Nat.le_trans (Nat.le_trans (Nat.le_trans (Nat.le_trans (Nat.le_trans (Nat.le_trans (Nat.le_trans (Nat.le_trans (Nat.le_trans (Nat.le_trans (Nat.le_trans (Nat.le_trans (Nat.le_trans (Nat.le_trans (Nat.le_trans (Nat.le_trans (Nat.le_trans (Nat.le_trans (Nat.le_trans (Nat.le_trans (Nat.le_trans (Nat.le_trans Z0 E2.1) (Keep.of_wr W5).1) (Keep.of_wr W8).1) (Keep.of_wr W11).1) (Keep.of_wr W14).1) (Keep.of_wr W17).1) (Keep.of_wr W20).1) (Keep.of_wr W23).1) (Keep.of_wr W26).1) (Keep.of_wr W29).1) (Keep.of_wr W32).1) (Keep.of_wr W35).1) (Keep.of_wr W38).1) (Keep.of_wr W41).1) (Keep.of_wr W44).1) E47.1) (Keep.of_wr W80).1) (Keep.of_wr W83).1) (Keep.of_wr W88).1) (Keep.of_wr W93).1) (Keep.of_wr W98).1) (Keep.of_wr W103).1), (by rw [show (m0_280_l8 p0) = (6 : Int32) from (by unfold m0_280_l8; rw [if_neg hc127_51, if_neg hc134_60, if_pos hc160_69, if_neg hc187_71])]; exact k104)⟩
        · have k105 : own_Go p e below (s₁.setTop (entryFrame m #[(.int p0), (.int p1), (.int p2)] maxLocals)) (T47.setTop (mkF m 167 #[.val (.int p0), .val (.int p1), .val (.int p2), .val (.int (v0_5 p0)), .val (.int (p1 &&& (7 : Int32))), .val (.int (p2.toInt8.toInt32)), .val (.ref b2), .val (.ref b47), .unset, .val (.int (v0_5 p0)), .unset, .unset] [(.int (126 : Int32)), (.int (v0_5 p0))])) := by
            intro t k
            refine k68 t ?_
            show Steps p.tables e below (T47.setTop (mkF m 160 #[.val (.int p0), .val (.int p1), .val (.int p2), .val (.int (v0_5 p0)), .val (.int (p1 &&& (7 : Int32))), .val (.int (p2.toInt8.toInt32)), .val (.ref b2), .val (.ref b47), .unset, .val (.int (v0_5 p0)), .unset, .unset] [(.int (32 : Int32)), (.int (v0_5 p0))])) t
            refine XS.icmpNo X47.here hx rfl (hb hby at_160) rfl (flt hc160_69).1 ?_
            show Steps p.tables e below (T47.setTop (mkF m 163 #[.val (.int p0), .val (.int p1), .val (.int p2), .val (.int (v0_5 p0)), .val (.int (p1 &&& (7 : Int32))), .val (.int (p2.toInt8.toInt32)), .val (.ref b2), .val (.ref b47), .unset, .val (.int (v0_5 p0)), .unset, .unset] [])) t
            refine XS.iload X47.here hx rfl (hb hby at_163) rfl ?_
            show Steps p.tables e below (T47.setTop (mkF m 165 #[.val (.int p0), .val (.int p1), .val (.int p2), .val (.int (v0_5 p0)), .val (.int (p1 &&& (7 : Int32))), .val (.int (p2.toInt8.toInt32)), .val (.ref b2), .val (.ref b47), .unset, .val (.int (v0_5 p0)), .unset, .unset] [(.int (v0_5 p0))])) t
            refine XS.bipush X47.here hx rfl (hb hby at_165) ?_
            exact k
          by_cases hc167_106 : (126 : Int32) < (v0_5 p0)
          · have k107 : own_Go p e below (s₁.setTop (entryFrame m #[(.int p0), (.int p1), (.int p2)] maxLocals)) (T47.setTop (mkF m 187 #[.val (.int p0), .val (.int p1), .val (.int p2), .val (.int (v0_5 p0)), .val (.int (p1 &&& (7 : Int32))), .val (.int (p2.toInt8.toInt32)), .val (.ref b2), .val (.ref b47), .unset, .val (.int (v0_5 p0)), .unset, .unset] [(.int (9 : Int32)), (.int (v0_5 p0))])) := by
              intro t k
              refine k105 t ?_
              show Steps p.tables e below (T47.setTop (mkF m 167 #[.val (.int p0), .val (.int p1), .val (.int p2), .val (.int (v0_5 p0)), .val (.int (p1 &&& (7 : Int32))), .val (.int (p2.toInt8.toInt32)), .val (.ref b2), .val (.ref b47), .unset, .val (.int (v0_5 p0)), .unset, .unset] [(.int (126 : Int32)), (.int (v0_5 p0))])) t
              refine XS.icmpYes X47.here hx rfl (pc0 := 167) (pc' := 183) rfl (hb hby at_167) rfl (tlt hc167_106).2.2.1 (by decide) (by decide) ?_
              show Steps p.tables e below (T47.setTop (mkF m 183 #[.val (.int p0), .val (.int p1), .val (.int p2), .val (.int (v0_5 p0)), .val (.int (p1 &&& (7 : Int32))), .val (.int (p2.toInt8.toInt32)), .val (.ref b2), .val (.ref b47), .unset, .val (.int (v0_5 p0)), .unset, .unset] [])) t
              refine XS.iload X47.here hx rfl (hb hby at_183) rfl ?_
              show Steps p.tables e below (T47.setTop (mkF m 185 #[.val (.int p0), .val (.int p1), .val (.int p2), .val (.int (v0_5 p0)), .val (.int (p1 &&& (7 : Int32))), .val (.int (p2.toInt8.toInt32)), .val (.ref b2), .val (.ref b47), .unset, .val (.int (v0_5 p0)), .unset, .unset] [(.int (v0_5 p0))])) t
              refine XS.bipush X47.here hx rfl (hb hby at_185) ?_
              exact k
            by_cases hc187_108 : (v0_5 p0) = (9 : Int32)
            · have k109 : own_Go p e below (s₁.setTop (entryFrame m #[(.int p0), (.int p1), (.int p2)] maxLocals)) (T47.setTop (mkF m 198 #[.val (.int p0), .val (.int p1), .val (.int p2), .val (.int (v0_5 p0)), .val (.int (p1 &&& (7 : Int32))), .val (.int (p2.toInt8.toInt32)), .val (.ref b2), .val (.ref b47), .val (.int (2 : Int32)), .val (.int (v0_5 p0)), .unset, .unset] [(.int (92 : Int32)), (.int (0 : Int32)), (.ref b47)])) := by
                intro t k
                refine k107 t ?_
                show Steps p.tables e below (T47.setTop (mkF m 187 #[.val (.int p0), .val (.int p1), .val (.int p2), .val (.int (v0_5 p0)), .val (.int (p1 &&& (7 : Int32))), .val (.int (p2.toInt8.toInt32)), .val (.ref b2), .val (.ref b47), .unset, .val (.int (v0_5 p0)), .unset, .unset] [(.int (9 : Int32)), (.int (v0_5 p0))])) t
                refine XS.icmpNo X47.here hx rfl (hb hby at_187) rfl (teq hc187_108).2 ?_
                show Steps p.tables e below (T47.setTop (mkF m 190 #[.val (.int p0), .val (.int p1), .val (.int p2), .val (.int (v0_5 p0)), .val (.int (p1 &&& (7 : Int32))), .val (.int (p2.toInt8.toInt32)), .val (.ref b2), .val (.ref b47), .unset, .val (.int (v0_5 p0)), .unset, .unset] [])) t
                refine XS.iconst X47.here hx rfl (hb hby at_190) ?_
                show Steps p.tables e below (T47.setTop (mkF m 191 #[.val (.int p0), .val (.int p1), .val (.int p2), .val (.int (v0_5 p0)), .val (.int (p1 &&& (7 : Int32))), .val (.int (p2.toInt8.toInt32)), .val (.ref b2), .val (.ref b47), .unset, .val (.int (v0_5 p0)), .unset, .unset] [(.int (2 : Int32))])) t
                refine XS.istore X47.here hx rfl (hb hby at_191) rfl (l' := #[.val (.int p0), .val (.int p1), .val (.int p2), .val (.int (v0_5 p0)), .val (.int (p1 &&& (7 : Int32))), .val (.int (p2.toInt8.toInt32)), .val (.ref b2), .val (.ref b47), .val (.int (2 : Int32)), .val (.int (v0_5 p0)), .unset, .unset]) rfl ?_
                show Steps p.tables e below (T47.setTop (mkF m 193 #[.val (.int p0), .val (.int p1), .val (.int p2), .val (.int (v0_5 p0)), .val (.int (p1 &&& (7 : Int32))), .val (.int (p2.toInt8.toInt32)), .val (.ref b2), .val (.ref b47), .val (.int (2 : Int32)), .val (.int (v0_5 p0)), .unset, .unset] [])) t
                refine XS.aload X47.here hx rfl (hb hby at_193) rfl rfl ?_
                show Steps p.tables e below (T47.setTop (mkF m 195 #[.val (.int p0), .val (.int p1), .val (.int p2), .val (.int (v0_5 p0)), .val (.int (p1 &&& (7 : Int32))), .val (.int (p2.toInt8.toInt32)), .val (.ref b2), .val (.ref b47), .val (.int (2 : Int32)), .val (.int (v0_5 p0)), .unset, .unset] [(.ref b47)])) t
                refine XS.iconst X47.here hx rfl (hb hby at_195) ?_
                show Steps p.tables e below (T47.setTop (mkF m 196 #[.val (.int p0), .val (.int p1), .val (.int p2), .val (.int (v0_5 p0)), .val (.int (p1 &&& (7 : Int32))), .val (.int (p2.toInt8.toInt32)), .val (.ref b2), .val (.ref b47), .val (.int (2 : Int32)), .val (.int (v0_5 p0)), .unset, .unset] [(.int (0 : Int32)), (.ref b47)])) t
                refine XS.bipush X47.here hx rfl (hb hby at_196) ?_
                exact k
              obtain ⟨T110, h110, X110, e110, W110, V110, st110⟩ := own_bst X47 hx hZ e47 V47 (j := (0 : Int32)) (by decide) (by decide) (g := (mkF m 198 #[.val (.int p0), .val (.int p1), .val (.int p2), .val (.int (v0_5 p0)), .val (.int (p1 &&& (7 : Int32))), .val (.int (p2.toInt8.toInt32)), .val (.ref b2), .val (.ref b47), .val (.int (2 : Int32)), .val (.int (v0_5 p0)), .unset, .unset] [(.int (92 : Int32)), (.int (0 : Int32)), (.ref b47)])) rfl rfl (hb hby at_198)
              have V110' : own_By Z h110 b47 6 B0_198 := V110
              have N110 := Fr.snoc X110 N44 g_b47
              have k111 : own_Go p e below (s₁.setTop (entryFrame m #[(.int p0), (.int p1), (.int p2)] maxLocals)) (T110.setTop (mkF m 199 #[.val (.int p0), .val (.int p1), .val (.int p2), .val (.int (v0_5 p0)), .val (.int (p1 &&& (7 : Int32))), .val (.int (p2.toInt8.toInt32)), .val (.ref b2), .val (.ref b47), .val (.int (2 : Int32)), .val (.int (v0_5 p0)), .unset, .unset] [])) := fun t k => k109 t (st110 t k)
              have k112 : own_Go p e below (s₁.setTop (entryFrame m #[(.int p0), (.int p1), (.int p2)] maxLocals)) (T110.setTop (mkF m 204 #[.val (.int p0), .val (.int p1), .val (.int p2), .val (.int (v0_5 p0)), .val (.int (p1 &&& (7 : Int32))), .val (.int (p2.toInt8.toInt32)), .val (.ref b2), .val (.ref b47), .val (.int (2 : Int32)), .val (.int (v0_5 p0)), .unset, .unset] [(.int (116 : Int32)), (.int (1 : Int32)), (.ref b47)])) := by
                intro t k
                refine k111 t ?_
                show Steps p.tables e below (T110.setTop (mkF m 199 #[.val (.int p0), .val (.int p1), .val (.int p2), .val (.int (v0_5 p0)), .val (.int (p1 &&& (7 : Int32))), .val (.int (p2.toInt8.toInt32)), .val (.ref b2), .val (.ref b47), .val (.int (2 : Int32)), .val (.int (v0_5 p0)), .unset, .unset] [])) t
                refine XS.aload X110.here hx rfl (hb hby at_199) rfl rfl ?_
                show Steps p.tables e below (T110.setTop (mkF m 201 #[.val (.int p0), .val (.int p1), .val (.int p2), .val (.int (v0_5 p0)), .val (.int (p1 &&& (7 : Int32))), .val (.int (p2.toInt8.toInt32)), .val (.ref b2), .val (.ref b47), .val (.int (2 : Int32)), .val (.int (v0_5 p0)), .unset, .unset] [(.ref b47)])) t
                refine XS.iconst X110.here hx rfl (hb hby at_201) ?_
                show Steps p.tables e below (T110.setTop (mkF m 202 #[.val (.int p0), .val (.int p1), .val (.int p2), .val (.int (v0_5 p0)), .val (.int (p1 &&& (7 : Int32))), .val (.int (p2.toInt8.toInt32)), .val (.ref b2), .val (.ref b47), .val (.int (2 : Int32)), .val (.int (v0_5 p0)), .unset, .unset] [(.int (1 : Int32)), (.ref b47)])) t
                refine XS.bipush X110.here hx rfl (hb hby at_202) ?_
                exact k
              obtain ⟨T113, h113, X113, e113, W113, V113, st113⟩ := own_bst X110 hx hZ e110 V110' (j := (1 : Int32)) (by decide) (by decide) (g := (mkF m 204 #[.val (.int p0), .val (.int p1), .val (.int p2), .val (.int (v0_5 p0)), .val (.int (p1 &&& (7 : Int32))), .val (.int (p2.toInt8.toInt32)), .val (.ref b2), .val (.ref b47), .val (.int (2 : Int32)), .val (.int (v0_5 p0)), .unset, .unset] [(.int (116 : Int32)), (.int (1 : Int32)), (.ref b47)])) rfl rfl (hb hby at_204)
              have V113' : own_By Z h113 b47 6 B0_204 := V113
              have N113 := Fr.snoc X113 N110 g_b47
              have k114 : own_Go p e below (s₁.setTop (entryFrame m #[(.int p0), (.int p1), (.int p2)] maxLocals)) (T113.setTop (mkF m 205 #[.val (.int p0), .val (.int p1), .val (.int p2), .val (.int (v0_5 p0)), .val (.int (p1 &&& (7 : Int32))), .val (.int (p2.toInt8.toInt32)), .val (.ref b2), .val (.ref b47), .val (.int (2 : Int32)), .val (.int (v0_5 p0)), .unset, .unset] [])) := fun t k => k112 t (st113 t k)
              have k115 : own_Go p e below (s₁.setTop (entryFrame m #[(.int p0), (.int p1), (.int p2)] maxLocals)) (T113.setTop (mkF m 280 #[.val (.int p0), .val (.int p1), .val (.int p2), .val (.int (v0_5 p0)), .val (.int (p1 &&& (7 : Int32))), .val (.int (p2.toInt8.toInt32)), .val (.ref b2), .val (.ref b47), .val (.int (2 : Int32)), .val (.int (v0_5 p0)), .unset, .unset] [])) := by
                intro t k
                refine k114 t ?_
                show Steps p.tables e below (T113.setTop (mkF m 205 #[.val (.int p0), .val (.int p1), .val (.int p2), .val (.int (v0_5 p0)), .val (.int (p1 &&& (7 : Int32))), .val (.int (p2.toInt8.toInt32)), .val (.ref b2), .val (.ref b47), .val (.int (2 : Int32)), .val (.int (v0_5 p0)), .unset, .unset] [])) t
                refine XS.goto X113.here hx rfl (pc0 := 205) (pc' := 280) rfl (hb hby at_205) (by decide) (by decide) ?_
                exact k
              exact ⟨_, _, _, X113, e113, N113, ((((((((((((((((((V_H.ext E2).other W5 (Nat.ne_of_lt (Nat.lt_of_lt_of_le V_H.lt (Nat.le_of_eq g2.symm)))).other W8 (Nat.ne_of_lt (Nat.lt_of_lt_of_le V_H.lt (Nat.le_of_eq g2.symm)))).other W11 (Nat.ne_of_lt (Nat.lt_of_lt_of_le V_H.lt (Nat.le_of_eq g2.symm)))).other W14 (Nat.ne_of_lt (Nat.lt_of_lt_of_le V_H.lt (Nat.le_of_eq g2.symm)))).other W17 (Nat.ne_of_lt (Nat.lt_of_lt_of_le V_H.lt (Nat.le_of_eq g2.symm)))).other W20 (Nat.ne_of_lt (Nat.lt_of_lt_of_le V_H.lt (Nat.le_of_eq g2.symm)))).other W23 (Nat.ne_of_lt (Nat.lt_of_lt_of_le V_H.lt (Nat.le_of_eq g2.symm)))).other W26 (Nat.ne_of_lt (Nat.lt_of_lt_of_le V_H.lt (Nat.le_of_eq g2.symm)))).other W29 (Nat.ne_of_lt (Nat.lt_of_lt_of_le V_H.lt (Nat.le_of_eq g2.symm)))).other W32 (Nat.ne_of_lt (Nat.lt_of_lt_of_le V_H.lt (Nat.le_of_eq g2.symm)))).other W35 (Nat.ne_of_lt (Nat.lt_of_lt_of_le V_H.lt (Nat.le_of_eq g2.symm)))).other W38 (Nat.ne_of_lt (Nat.lt_of_lt_of_le V_H.lt (Nat.le_of_eq g2.symm)))).other W41 (Nat.ne_of_lt (Nat.lt_of_lt_of_le V_H.lt (Nat.le_of_eq g2.symm)))).other W44 (Nat.ne_of_lt (Nat.lt_of_lt_of_le V_H.lt (Nat.le_of_eq g2.symm)))).ext E47).other W110 (Nat.ne_of_lt (Nat.lt_of_lt_of_le (((((((((((((((V_H.ext E2).other W5 (Nat.ne_of_lt (Nat.lt_of_lt_of_le V_H.lt (Nat.le_of_eq g2.symm)))).other W8 (Nat.ne_of_lt (Nat.lt_of_lt_of_le V_H.lt (Nat.le_of_eq g2.symm)))).other W11 (Nat.ne_of_lt (Nat.lt_of_lt_of_le V_H.lt (Nat.le_of_eq g2.symm)))).other W14 (Nat.ne_of_lt (Nat.lt_of_lt_of_le V_H.lt (Nat.le_of_eq g2.symm)))).other W17 (Nat.ne_of_lt (Nat.lt_of_lt_of_le V_H.lt (Nat.le_of_eq g2.symm)))).other W20 (Nat.ne_of_lt (Nat.lt_of_lt_of_le V_H.lt (Nat.le_of_eq g2.symm)))).other W23 (Nat.ne_of_lt (Nat.lt_of_lt_of_le V_H.lt (Nat.le_of_eq g2.symm)))).other W26 (Nat.ne_of_lt (Nat.lt_of_lt_of_le V_H.lt (Nat.le_of_eq g2.symm)))).other W29 (Nat.ne_of_lt (Nat.lt_of_lt_of_le V_H.lt (Nat.le_of_eq g2.symm)))).other W32 (Nat.ne_of_lt (Nat.lt_of_lt_of_le V_H.lt (Nat.le_of_eq g2.symm)))).other W35 (Nat.ne_of_lt (Nat.lt_of_lt_of_le V_H.lt (Nat.le_of_eq g2.symm)))).other W38 (Nat.ne_of_lt (Nat.lt_of_lt_of_le V_H.lt (Nat.le_of_eq g2.symm)))).other W41 (Nat.ne_of_lt (Nat.lt_of_lt_of_le V_H.lt (Nat.le_of_eq g2.symm)))).other W44 (Nat.ne_of_lt (Nat.lt_of_lt_of_le V_H.lt (Nat.le_of_eq g2.symm)))).lt (Nat.le_of_eq g47.symm)))).other W113 (Nat.ne_of_lt (Nat.lt_of_lt_of_le (((((((((((((((V_H.ext E2).other W5 (Nat.ne_of_lt (Nat.lt_of_lt_of_le V_H.lt (Nat.le_of_eq g2.symm)))).other W8 (Nat.ne_of_lt (Nat.lt_of_lt_of_le V_H.lt (Nat.le_of_eq g2.symm)))).other W11 (Nat.ne_of_lt (Nat.lt_of_lt_of_le V_H.lt (Nat.le_of_eq g2.symm)))).other W14 (Nat.ne_of_lt (Nat.lt_of_lt_of_le V_H.lt (Nat.le_of_eq g2.symm)))).other W17 (Nat.ne_of_lt (Nat.lt_of_lt_of_le V_H.lt (Nat.le_of_eq g2.symm)))).other W20 (Nat.ne_of_lt (Nat.lt_of_lt_of_le V_H.lt (Nat.le_of_eq g2.symm)))).other W23 (Nat.ne_of_lt (Nat.lt_of_lt_of_le V_H.lt (Nat.le_of_eq g2.symm)))).other W26 (Nat.ne_of_lt (Nat.lt_of_lt_of_le V_H.lt (Nat.le_of_eq g2.symm)))).other W29 (Nat.ne_of_lt (Nat.lt_of_lt_of_le V_H.lt (Nat.le_of_eq g2.symm)))).other W32 (Nat.ne_of_lt (Nat.lt_of_lt_of_le V_H.lt (Nat.le_of_eq g2.symm)))).other W35 (Nat.ne_of_lt (Nat.lt_of_lt_of_le V_H.lt (Nat.le_of_eq g2.symm)))).other W38 (Nat.ne_of_lt (Nat.lt_of_lt_of_le V_H.lt (Nat.le_of_eq g2.symm)))).other W41 (Nat.ne_of_lt (Nat.lt_of_lt_of_le V_H.lt (Nat.le_of_eq g2.symm)))).other W44 (Nat.ne_of_lt (Nat.lt_of_lt_of_le V_H.lt (Nat.le_of_eq g2.symm)))).lt (Nat.le_of_eq g47.symm)))), ((((((((((((((((((S_H.ext E2).wr W5).wr W8).wr W11).wr W14).wr W17).wr W20).wr W23).wr W26).wr W29).wr W32).wr W35).wr W38).wr W41).wr W44).ext E47).wr W110).wr W113), (((V44'.ext E47).other W110 (Nat.ne_of_lt (Nat.lt_of_lt_of_le V44'.lt (Nat.le_of_eq g47.symm)))).other W113 (Nat.ne_of_lt (Nat.lt_of_lt_of_le V44'.lt (Nat.le_of_eq g47.symm)))), (by rw [show (m0_280_b47 p0) = B0_204 from (by unfold m0_280_b47; rw [if_neg hc127_51, if_neg hc134_60, if_neg hc160_69, if_pos hc167_106, if_pos hc187_108])]; exact V113'), (Nat.le_trans (Nat.le_trans (Nat.le_trans (Nat.le_trans (Nat.le_trans (Nat.le_trans (Nat.le_trans (Nat.le_trans (Nat.le_trans (Nat.le_trans (Nat.le_trans (Nat.le_trans (Nat.le_trans (Nat.le_trans (Nat.le_trans (Nat.le_trans (Nat.le_trans (Nat.le_trans Z0 E2.1) (Keep.of_wr W5).1) (Keep.of_wr W8).1) (Keep.of_wr W11).1) (Keep.of_wr W14).1) (Keep.of_wr W17).1) (Keep.of_wr W20).1) (Keep.of_wr W23).1) (Keep.of_wr W26).1) (Keep.of_wr W29).1) (Keep.of_wr W32).1) (Keep.of_wr W35).1) (Keep.of_wr W38).1) (Keep.of_wr W41).1) (Keep.of_wr W44).1) E47.1) (Keep.of_wr W110).1) (Keep.of_wr W113).1), (by rw [show (m0_280_l8 p0) = (2 : Int32) from (by unfold m0_280_l8; rw [if_neg hc127_51, if_neg hc134_60, if_neg hc160_69, if_pos hc167_106, if_pos hc187_108])]; exact k115)⟩
            · have k116 : own_Go p e below (s₁.setTop (entryFrame m #[(.int p0), (.int p1), (.int p2)] maxLocals)) (T47.setTop (mkF m 217 #[.val (.int p0), .val (.int p1), .val (.int p2), .val (.int (v0_5 p0)), .val (.int (p1 &&& (7 : Int32))), .val (.int (p2.toInt8.toInt32)), .val (.ref b2), .val (.ref b47), .val (.int (6 : Int32)), .val (.int (v0_5 p0)), .unset, .unset] [(.int (92 : Int32)), (.int (0 : Int32)), (.ref b47)])) := by
                intro t k
                refine k107 t ?_
                show Steps p.tables e below (T47.setTop (mkF m 187 #[.val (.int p0), .val (.int p1), .val (.int p2), .val (.int (v0_5 p0)), .val (.int (p1 &&& (7 : Int32))), .val (.int (p2.toInt8.toInt32)), .val (.ref b2), .val (.ref b47), .unset, .val (.int (v0_5 p0)), .unset, .unset] [(.int (9 : Int32)), (.int (v0_5 p0))])) t
                refine XS.icmpYes X47.here hx rfl (pc0 := 187) (pc' := 208) rfl (hb hby at_187) rfl (feq hc187_108).2 (by decide) (by decide) ?_
                show Steps p.tables e below (T47.setTop (mkF m 208 #[.val (.int p0), .val (.int p1), .val (.int p2), .val (.int (v0_5 p0)), .val (.int (p1 &&& (7 : Int32))), .val (.int (p2.toInt8.toInt32)), .val (.ref b2), .val (.ref b47), .unset, .val (.int (v0_5 p0)), .unset, .unset] [])) t
                refine XS.bipush X47.here hx rfl (hb hby at_208) ?_
                show Steps p.tables e below (T47.setTop (mkF m 210 #[.val (.int p0), .val (.int p1), .val (.int p2), .val (.int (v0_5 p0)), .val (.int (p1 &&& (7 : Int32))), .val (.int (p2.toInt8.toInt32)), .val (.ref b2), .val (.ref b47), .unset, .val (.int (v0_5 p0)), .unset, .unset] [(.int (6 : Int32))])) t
                refine XS.istore X47.here hx rfl (hb hby at_210) rfl (l' := #[.val (.int p0), .val (.int p1), .val (.int p2), .val (.int (v0_5 p0)), .val (.int (p1 &&& (7 : Int32))), .val (.int (p2.toInt8.toInt32)), .val (.ref b2), .val (.ref b47), .val (.int (6 : Int32)), .val (.int (v0_5 p0)), .unset, .unset]) rfl ?_
                show Steps p.tables e below (T47.setTop (mkF m 212 #[.val (.int p0), .val (.int p1), .val (.int p2), .val (.int (v0_5 p0)), .val (.int (p1 &&& (7 : Int32))), .val (.int (p2.toInt8.toInt32)), .val (.ref b2), .val (.ref b47), .val (.int (6 : Int32)), .val (.int (v0_5 p0)), .unset, .unset] [])) t
                refine XS.aload X47.here hx rfl (hb hby at_212) rfl rfl ?_
                show Steps p.tables e below (T47.setTop (mkF m 214 #[.val (.int p0), .val (.int p1), .val (.int p2), .val (.int (v0_5 p0)), .val (.int (p1 &&& (7 : Int32))), .val (.int (p2.toInt8.toInt32)), .val (.ref b2), .val (.ref b47), .val (.int (6 : Int32)), .val (.int (v0_5 p0)), .unset, .unset] [(.ref b47)])) t
                refine XS.iconst X47.here hx rfl (hb hby at_214) ?_
                show Steps p.tables e below (T47.setTop (mkF m 215 #[.val (.int p0), .val (.int p1), .val (.int p2), .val (.int (v0_5 p0)), .val (.int (p1 &&& (7 : Int32))), .val (.int (p2.toInt8.toInt32)), .val (.ref b2), .val (.ref b47), .val (.int (6 : Int32)), .val (.int (v0_5 p0)), .unset, .unset] [(.int (0 : Int32)), (.ref b47)])) t
                refine XS.bipush X47.here hx rfl (hb hby at_215) ?_
                exact k
              obtain ⟨T117, h117, X117, e117, W117, V117, st117⟩ := own_bst X47 hx hZ e47 V47 (j := (0 : Int32)) (by decide) (by decide) (g := (mkF m 217 #[.val (.int p0), .val (.int p1), .val (.int p2), .val (.int (v0_5 p0)), .val (.int (p1 &&& (7 : Int32))), .val (.int (p2.toInt8.toInt32)), .val (.ref b2), .val (.ref b47), .val (.int (6 : Int32)), .val (.int (v0_5 p0)), .unset, .unset] [(.int (92 : Int32)), (.int (0 : Int32)), (.ref b47)])) rfl rfl (hb hby at_217)
              have V117' : own_By Z h117 b47 6 B0_217 := V117
              have N117 := Fr.snoc X117 N44 g_b47
              have k118 : own_Go p e below (s₁.setTop (entryFrame m #[(.int p0), (.int p1), (.int p2)] maxLocals)) (T117.setTop (mkF m 218 #[.val (.int p0), .val (.int p1), .val (.int p2), .val (.int (v0_5 p0)), .val (.int (p1 &&& (7 : Int32))), .val (.int (p2.toInt8.toInt32)), .val (.ref b2), .val (.ref b47), .val (.int (6 : Int32)), .val (.int (v0_5 p0)), .unset, .unset] [])) := fun t k => k116 t (st117 t k)
              have k119 : own_Go p e below (s₁.setTop (entryFrame m #[(.int p0), (.int p1), (.int p2)] maxLocals)) (T117.setTop (mkF m 223 #[.val (.int p0), .val (.int p1), .val (.int p2), .val (.int (v0_5 p0)), .val (.int (p1 &&& (7 : Int32))), .val (.int (p2.toInt8.toInt32)), .val (.ref b2), .val (.ref b47), .val (.int (6 : Int32)), .val (.int (v0_5 p0)), .unset, .unset] [(.int (117 : Int32)), (.int (1 : Int32)), (.ref b47)])) := by
                intro t k
                refine k118 t ?_
                show Steps p.tables e below (T117.setTop (mkF m 218 #[.val (.int p0), .val (.int p1), .val (.int p2), .val (.int (v0_5 p0)), .val (.int (p1 &&& (7 : Int32))), .val (.int (p2.toInt8.toInt32)), .val (.ref b2), .val (.ref b47), .val (.int (6 : Int32)), .val (.int (v0_5 p0)), .unset, .unset] [])) t
                refine XS.aload X117.here hx rfl (hb hby at_218) rfl rfl ?_
                show Steps p.tables e below (T117.setTop (mkF m 220 #[.val (.int p0), .val (.int p1), .val (.int p2), .val (.int (v0_5 p0)), .val (.int (p1 &&& (7 : Int32))), .val (.int (p2.toInt8.toInt32)), .val (.ref b2), .val (.ref b47), .val (.int (6 : Int32)), .val (.int (v0_5 p0)), .unset, .unset] [(.ref b47)])) t
                refine XS.iconst X117.here hx rfl (hb hby at_220) ?_
                show Steps p.tables e below (T117.setTop (mkF m 221 #[.val (.int p0), .val (.int p1), .val (.int p2), .val (.int (v0_5 p0)), .val (.int (p1 &&& (7 : Int32))), .val (.int (p2.toInt8.toInt32)), .val (.ref b2), .val (.ref b47), .val (.int (6 : Int32)), .val (.int (v0_5 p0)), .unset, .unset] [(.int (1 : Int32)), (.ref b47)])) t
                refine XS.bipush X117.here hx rfl (hb hby at_221) ?_
                exact k
              obtain ⟨T120, h120, X120, e120, W120, V120, st120⟩ := own_bst X117 hx hZ e117 V117' (j := (1 : Int32)) (by decide) (by decide) (g := (mkF m 223 #[.val (.int p0), .val (.int p1), .val (.int p2), .val (.int (v0_5 p0)), .val (.int (p1 &&& (7 : Int32))), .val (.int (p2.toInt8.toInt32)), .val (.ref b2), .val (.ref b47), .val (.int (6 : Int32)), .val (.int (v0_5 p0)), .unset, .unset] [(.int (117 : Int32)), (.int (1 : Int32)), (.ref b47)])) rfl rfl (hb hby at_223)
              have V120' : own_By Z h120 b47 6 B0_223 := V120
              have N120 := Fr.snoc X120 N117 g_b47
              have k121 : own_Go p e below (s₁.setTop (entryFrame m #[(.int p0), (.int p1), (.int p2)] maxLocals)) (T120.setTop (mkF m 224 #[.val (.int p0), .val (.int p1), .val (.int p2), .val (.int (v0_5 p0)), .val (.int (p1 &&& (7 : Int32))), .val (.int (p2.toInt8.toInt32)), .val (.ref b2), .val (.ref b47), .val (.int (6 : Int32)), .val (.int (v0_5 p0)), .unset, .unset] [])) := fun t k => k119 t (st120 t k)
              have k122 : own_Go p e below (s₁.setTop (entryFrame m #[(.int p0), (.int p1), (.int p2)] maxLocals)) (T120.setTop (mkF m 233 #[.val (.int p0), .val (.int p1), .val (.int p2), .val (.int (v0_5 p0)), .val (.int (p1 &&& (7 : Int32))), .val (.int (p2.toInt8.toInt32)), .val (.ref b2), .val (.ref b47), .val (.int (6 : Int32)), .val (.int (v0_5 p0)), .unset, .unset] [(.int ((v0_5 p0) / (4096 : Int32))), (.int (2 : Int32)), (.ref b47)])) := by
                intro t k
                refine k121 t ?_
                show Steps p.tables e below (T120.setTop (mkF m 224 #[.val (.int p0), .val (.int p1), .val (.int p2), .val (.int (v0_5 p0)), .val (.int (p1 &&& (7 : Int32))), .val (.int (p2.toInt8.toInt32)), .val (.ref b2), .val (.ref b47), .val (.int (6 : Int32)), .val (.int (v0_5 p0)), .unset, .unset] [])) t
                refine XS.aload X120.here hx rfl (hb hby at_224) rfl rfl ?_
                show Steps p.tables e below (T120.setTop (mkF m 226 #[.val (.int p0), .val (.int p1), .val (.int p2), .val (.int (v0_5 p0)), .val (.int (p1 &&& (7 : Int32))), .val (.int (p2.toInt8.toInt32)), .val (.ref b2), .val (.ref b47), .val (.int (6 : Int32)), .val (.int (v0_5 p0)), .unset, .unset] [(.ref b47)])) t
                refine XS.iconst X120.here hx rfl (hb hby at_226) ?_
                show Steps p.tables e below (T120.setTop (mkF m 227 #[.val (.int p0), .val (.int p1), .val (.int p2), .val (.int (v0_5 p0)), .val (.int (p1 &&& (7 : Int32))), .val (.int (p2.toInt8.toInt32)), .val (.ref b2), .val (.ref b47), .val (.int (6 : Int32)), .val (.int (v0_5 p0)), .unset, .unset] [(.int (2 : Int32)), (.ref b47)])) t
                refine XS.iload X120.here hx rfl (hb hby at_227) rfl ?_
                show Steps p.tables e below (T120.setTop (mkF m 229 #[.val (.int p0), .val (.int p1), .val (.int p2), .val (.int (v0_5 p0)), .val (.int (p1 &&& (7 : Int32))), .val (.int (p2.toInt8.toInt32)), .val (.ref b2), .val (.ref b47), .val (.int (6 : Int32)), .val (.int (v0_5 p0)), .unset, .unset] [(.int (v0_5 p0)), (.int (2 : Int32)), (.ref b47)])) t
                refine XS.sipush X120.here hx rfl (hb hby at_229) ?_
                show Steps p.tables e below (T120.setTop (mkF m 232 #[.val (.int p0), .val (.int p1), .val (.int p2), .val (.int (v0_5 p0)), .val (.int (p1 &&& (7 : Int32))), .val (.int (p2.toInt8.toInt32)), .val (.ref b2), .val (.ref b47), .val (.int (6 : Int32)), .val (.int (v0_5 p0)), .unset, .unset] [(.int (4096 : Int32)), (.int (v0_5 p0)), (.int (2 : Int32)), (.ref b47)])) t
                refine XS.idiv X120.here hx rfl (hb hby at_232) rfl (by decide) ?_
                exact k
              obtain ⟨_, _, ⟨T123, L123, kk123, n123⟩, -, X123, ⟨Lc123, hQ123, l123, y123, z123⟩, st123⟩ := Jvm.LawKit.callS X120 hx (y := (⟨"com/example/segmentry/segmentry/io/JsonTextEscapePinLaw", "hex", "(I)B"⟩ : MethodName)) hown (mvT hZ (hw _ (List.mem_of_getElem? (i := 2) rfl))) (mvT hZ (hw _ (List.mem_of_getElem? (i := 3) rfl))) (mvT hZ (hw _ (List.mem_of_getElem? (i := 4) rfl))) (mvT hZ (hw _ (List.mem_of_getElem? (i := 5) rfl))) (by decide) (backOf (W := 2) (rm1 l Z a0 hw [] ((v0_5 p0) / (4096 : Int32))  h120 n0 (Nat.le_trans (Nat.le_trans (Nat.le_trans (Nat.le_trans (Nat.le_trans (Nat.le_trans (Nat.le_trans (Nat.le_trans (Nat.le_trans (Nat.le_trans (Nat.le_trans (Nat.le_trans (Nat.le_trans (Nat.le_trans (Nat.le_trans (Nat.le_trans (Nat.le_trans (Nat.le_trans Z0 E2.1) (Keep.of_wr W5).1) (Keep.of_wr W8).1) (Keep.of_wr W11).1) (Keep.of_wr W14).1) (Keep.of_wr W17).1) (Keep.of_wr W20).1) (Keep.of_wr W23).1) (Keep.of_wr W26).1) (Keep.of_wr W29).1) (Keep.of_wr W32).1) (Keep.of_wr W35).1) (Keep.of_wr W38).1) (Keep.of_wr W41).1) (Keep.of_wr W44).1) E47.1) (Keep.of_wr W117).1) (Keep.of_wr W120).1) ) hZ (hw _ (List.mem_of_getElem? (i := 5) rfl)) (hw _ (List.mem_of_getElem? (i := 4) rfl)) (by decide) (by decide)) (g := (mkF m 233 #[.val (.int p0), .val (.int p1), .val (.int p2), .val (.int (v0_5 p0)), .val (.int (p1 &&& (7 : Int32))), .val (.int (p2.toInt8.toInt32)), .val (.ref b2), .val (.ref b47), .val (.int (6 : Int32)), .val (.int (v0_5 p0)), .unset, .unset] [(.int ((v0_5 p0) / (4096 : Int32))), (.int (2 : Int32)), (.ref b47)])) rfl (by rw [hml]; rfl) (argsL := [(.int ((v0_5 p0) / (4096 : Int32)))]) (rest := [(.int (2 : Int32)), (.ref b47)]) (lenOf pd_0 rfl) rfl (by show 2 * 0 + _ ≤ _; exact Nat.le_of_eq rfl) (hb hby at_233) (fun _ _ => ⟨rfl, e120, (by decide : 2 + 0 ≤ _), (by decide : 20 + 0 ≤ _)⟩)
              dsimp only [Pt.U, Pt.locs, Pt.cells, Pt.slots] at X123 l123 y123 z123 st123 hQ123
              subst l123 y123 z123
              obtain ⟨rfl, N123q, eh123⟩ := hQ123
              have N123 := Fr.app N120 N123q
              have k124 : own_Go p e below (s₁.setTop (entryFrame m #[(.int p0), (.int p1), (.int p2)] maxLocals)) (T123.setTop (mkF m 236 #[.val (.int p0), .val (.int p1), .val (.int p2), .val (.int (v0_5 p0)), .val (.int (p1 &&& (7 : Int32))), .val (.int (p2.toInt8.toInt32)), .val (.ref b2), .val (.ref b47), .val (.int (6 : Int32)), .val (.int (v0_5 p0)), .unset, .unset] [(.int (f1 ((v0_5 p0) / (4096 : Int32)))), (.int (2 : Int32)), (.ref b47)])) := fun t k => k122 t (st123 t k)
              obtain ⟨T125, h125, X125, e125, W125, V125, st125⟩ := own_bst X123 hx hZ eh123 V120' (j := (2 : Int32)) (by decide) (by decide) (g := (mkF m 236 #[.val (.int p0), .val (.int p1), .val (.int p2), .val (.int (v0_5 p0)), .val (.int (p1 &&& (7 : Int32))), .val (.int (p2.toInt8.toInt32)), .val (.ref b2), .val (.ref b47), .val (.int (6 : Int32)), .val (.int (v0_5 p0)), .unset, .unset] [(.int (f1 ((v0_5 p0) / (4096 : Int32)))), (.int (2 : Int32)), (.ref b47)])) rfl rfl (hb hby at_236)
              have V125' : own_By Z h125 b47 6 (B0_236 p0) := V125
              have N125 := Fr.snoc X125 N123 g_b47
              have k126 : own_Go p e below (s₁.setTop (entryFrame m #[(.int p0), (.int p1), (.int p2)] maxLocals)) (T125.setTop (mkF m 237 #[.val (.int p0), .val (.int p1), .val (.int p2), .val (.int (v0_5 p0)), .val (.int (p1 &&& (7 : Int32))), .val (.int (p2.toInt8.toInt32)), .val (.ref b2), .val (.ref b47), .val (.int (6 : Int32)), .val (.int (v0_5 p0)), .unset, .unset] [])) := fun t k => k124 t (st125 t k)
              have k127 : own_Go p e below (s₁.setTop (entryFrame m #[(.int p0), (.int p1), (.int p2)] maxLocals)) (T125.setTop (mkF m 249 #[.val (.int p0), .val (.int p1), .val (.int p2), .val (.int (v0_5 p0)), .val (.int (p1 &&& (7 : Int32))), .val (.int (p2.toInt8.toInt32)), .val (.ref b2), .val (.ref b47), .val (.int (6 : Int32)), .val (.int (v0_5 p0)), .unset, .unset] [(.int (((v0_5 p0) / (256 : Int32)) % (16 : Int32))), (.int (3 : Int32)), (.ref b47)])) := by
                intro t k
                refine k126 t ?_
                show Steps p.tables e below (T125.setTop (mkF m 237 #[.val (.int p0), .val (.int p1), .val (.int p2), .val (.int (v0_5 p0)), .val (.int (p1 &&& (7 : Int32))), .val (.int (p2.toInt8.toInt32)), .val (.ref b2), .val (.ref b47), .val (.int (6 : Int32)), .val (.int (v0_5 p0)), .unset, .unset] [])) t
                refine XS.aload X125.here hx rfl (hb hby at_237) rfl rfl ?_
                show Steps p.tables e below (T125.setTop (mkF m 239 #[.val (.int p0), .val (.int p1), .val (.int p2), .val (.int (v0_5 p0)), .val (.int (p1 &&& (7 : Int32))), .val (.int (p2.toInt8.toInt32)), .val (.ref b2), .val (.ref b47), .val (.int (6 : Int32)), .val (.int (v0_5 p0)), .unset, .unset] [(.ref b47)])) t
                refine XS.iconst X125.here hx rfl (hb hby at_239) ?_
                show Steps p.tables e below (T125.setTop (mkF m 240 #[.val (.int p0), .val (.int p1), .val (.int p2), .val (.int (v0_5 p0)), .val (.int (p1 &&& (7 : Int32))), .val (.int (p2.toInt8.toInt32)), .val (.ref b2), .val (.ref b47), .val (.int (6 : Int32)), .val (.int (v0_5 p0)), .unset, .unset] [(.int (3 : Int32)), (.ref b47)])) t
                refine XS.iload X125.here hx rfl (hb hby at_240) rfl ?_
                show Steps p.tables e below (T125.setTop (mkF m 242 #[.val (.int p0), .val (.int p1), .val (.int p2), .val (.int (v0_5 p0)), .val (.int (p1 &&& (7 : Int32))), .val (.int (p2.toInt8.toInt32)), .val (.ref b2), .val (.ref b47), .val (.int (6 : Int32)), .val (.int (v0_5 p0)), .unset, .unset] [(.int (v0_5 p0)), (.int (3 : Int32)), (.ref b47)])) t
                refine XS.sipush X125.here hx rfl (hb hby at_242) ?_
                show Steps p.tables e below (T125.setTop (mkF m 245 #[.val (.int p0), .val (.int p1), .val (.int p2), .val (.int (v0_5 p0)), .val (.int (p1 &&& (7 : Int32))), .val (.int (p2.toInt8.toInt32)), .val (.ref b2), .val (.ref b47), .val (.int (6 : Int32)), .val (.int (v0_5 p0)), .unset, .unset] [(.int (256 : Int32)), (.int (v0_5 p0)), (.int (3 : Int32)), (.ref b47)])) t
                refine XS.idiv X125.here hx rfl (hb hby at_245) rfl (by decide) ?_
                show Steps p.tables e below (T125.setTop (mkF m 246 #[.val (.int p0), .val (.int p1), .val (.int p2), .val (.int (v0_5 p0)), .val (.int (p1 &&& (7 : Int32))), .val (.int (p2.toInt8.toInt32)), .val (.ref b2), .val (.ref b47), .val (.int (6 : Int32)), .val (.int (v0_5 p0)), .unset, .unset] [(.int ((v0_5 p0) / (256 : Int32))), (.int (3 : Int32)), (.ref b47)])) t
                refine XS.bipush X125.here hx rfl (hb hby at_246) ?_
                show Steps p.tables e below (T125.setTop (mkF m 248 #[.val (.int p0), .val (.int p1), .val (.int p2), .val (.int (v0_5 p0)), .val (.int (p1 &&& (7 : Int32))), .val (.int (p2.toInt8.toInt32)), .val (.ref b2), .val (.ref b47), .val (.int (6 : Int32)), .val (.int (v0_5 p0)), .unset, .unset] [(.int (16 : Int32)), (.int ((v0_5 p0) / (256 : Int32))), (.int (3 : Int32)), (.ref b47)])) t
                refine iremM X125 hx rfl (hb hby at_248) rfl (by decide) ?_
                exact k
              obtain ⟨_, _, ⟨T128, L128, kk128, n128⟩, -, X128, ⟨Lc128, hQ128, l128, y128, z128⟩, st128⟩ := Jvm.LawKit.callS X125 hx (y := (⟨"com/example/segmentry/segmentry/io/JsonTextEscapePinLaw", "hex", "(I)B"⟩ : MethodName)) hown (mvT hZ (hw _ (List.mem_of_getElem? (i := 2) rfl))) (mvT hZ (hw _ (List.mem_of_getElem? (i := 3) rfl))) (mvT hZ (hw _ (List.mem_of_getElem? (i := 4) rfl))) (mvT hZ (hw _ (List.mem_of_getElem? (i := 5) rfl))) (by decide) (backOf (W := 2) (rm1 l Z a0 hw [] (((v0_5 p0) / (256 : Int32)) % (16 : Int32))  h125 n0 (Nat.le_trans (Nat.le_trans (Nat.le_trans (Nat.le_trans (Nat.le_trans (Nat.le_trans (Nat.le_trans (Nat.le_trans (Nat.le_trans (Nat.le_trans (Nat.le_trans (Nat.le_trans (Nat.le_trans (Nat.le_trans (Nat.le_trans (Nat.le_trans (Nat.le_trans (Nat.le_trans (Nat.le_trans Z0 E2.1) (Keep.of_wr W5).1) (Keep.of_wr W8).1) (Keep.of_wr W11).1) (Keep.of_wr W14).1) (Keep.of_wr W17).1) (Keep.of_wr W20).1) (Keep.of_wr W23).1) (Keep.of_wr W26).1) (Keep.of_wr W29).1) (Keep.of_wr W32).1) (Keep.of_wr W35).1) (Keep.of_wr W38).1) (Keep.of_wr W41).1) (Keep.of_wr W44).1) E47.1) (Keep.of_wr W117).1) (Keep.of_wr W120).1) (Keep.of_wr W125).1) ) hZ (hw _ (List.mem_of_getElem? (i := 5) rfl)) (hw _ (List.mem_of_getElem? (i := 4) rfl)) (by decide) (by decide)) (g := (mkF m 249 #[.val (.int p0), .val (.int p1), .val (.int p2), .val (.int (v0_5 p0)), .val (.int (p1 &&& (7 : Int32))), .val (.int (p2.toInt8.toInt32)), .val (.ref b2), .val (.ref b47), .val (.int (6 : Int32)), .val (.int (v0_5 p0)), .unset, .unset] [(.int (((v0_5 p0) / (256 : Int32)) % (16 : Int32))), (.int (3 : Int32)), (.ref b47)])) rfl (by rw [hml]; rfl) (argsL := [(.int (((v0_5 p0) / (256 : Int32)) % (16 : Int32)))]) (rest := [(.int (3 : Int32)), (.ref b47)]) (lenOf pd_0 rfl) rfl (by show 2 * 0 + _ ≤ _; exact Nat.le_of_eq rfl) (hb hby at_249) (fun _ _ => ⟨rfl, e125, (by decide : 2 + 0 ≤ _), (by decide : 20 + 0 ≤ _)⟩)
              dsimp only [Pt.U, Pt.locs, Pt.cells, Pt.slots] at X128 l128 y128 z128 st128 hQ128
              subst l128 y128 z128
              obtain ⟨rfl, N128q, eh128⟩ := hQ128
              have N128 := Fr.app N125 N128q
              have k129 : own_Go p e below (s₁.setTop (entryFrame m #[(.int p0), (.int p1), (.int p2)] maxLocals)) (T128.setTop (mkF m 252 #[.val (.int p0), .val (.int p1), .val (.int p2), .val (.int (v0_5 p0)), .val (.int (p1 &&& (7 : Int32))), .val (.int (p2.toInt8.toInt32)), .val (.ref b2), .val (.ref b47), .val (.int (6 : Int32)), .val (.int (v0_5 p0)), .unset, .unset] [(.int (f1 (((v0_5 p0) / (256 : Int32)) % (16 : Int32)))), (.int (3 : Int32)), (.ref b47)])) := fun t k => k127 t (st128 t k)
              obtain ⟨T130, h130, X130, e130, W130, V130, st130⟩ := own_bst X128 hx hZ eh128 V125' (j := (3 : Int32)) (by decide) (by decide) (g := (mkF m 252 #[.val (.int p0), .val (.int p1), .val (.int p2), .val (.int (v0_5 p0)), .val (.int (p1 &&& (7 : Int32))), .val (.int (p2.toInt8.toInt32)), .val (.ref b2), .val (.ref b47), .val (.int (6 : Int32)), .val (.int (v0_5 p0)), .unset, .unset] [(.int (f1 (((v0_5 p0) / (256 : Int32)) % (16 : Int32)))), (.int (3 : Int32)), (.ref b47)])) rfl rfl (hb hby at_252)
              have V130' : own_By Z h130 b47 6 (B0_252 p0) := V130
              have N130 := Fr.snoc X130 N128 g_b47
              have k131 : own_Go p e below (s₁.setTop (entryFrame m #[(.int p0), (.int p1), (.int p2)] maxLocals)) (T130.setTop (mkF m 253 #[.val (.int p0), .val (.int p1), .val (.int p2), .val (.int (v0_5 p0)), .val (.int (p1 &&& (7 : Int32))), .val (.int (p2.toInt8.toInt32)), .val (.ref b2), .val (.ref b47), .val (.int (6 : Int32)), .val (.int (v0_5 p0)), .unset, .unset] [])) := fun t k => k129 t (st130 t k)
              have k132 : own_Go p e below (s₁.setTop (entryFrame m #[(.int p0), (.int p1), (.int p2)] maxLocals)) (T130.setTop (mkF m 264 #[.val (.int p0), .val (.int p1), .val (.int p2), .val (.int (v0_5 p0)), .val (.int (p1 &&& (7 : Int32))), .val (.int (p2.toInt8.toInt32)), .val (.ref b2), .val (.ref b47), .val (.int (6 : Int32)), .val (.int (v0_5 p0)), .unset, .unset] [(.int (((v0_5 p0) / (16 : Int32)) % (16 : Int32))), (.int (4 : Int32)), (.ref b47)])) := by
                intro t k
                refine k131 t ?_
                show Steps p.tables e below (T130.setTop (mkF m 253 #[.val (.int p0), .val (.int p1), .val (.int p2), .val (.int (v0_5 p0)), .val (.int (p1 &&& (7 : Int32))), .val (.int (p2.toInt8.toInt32)), .val (.ref b2), .val (.ref b47), .val (.int (6 : Int32)), .val (.int (v0_5 p0)), .unset, .unset] [])) t
                refine XS.aload X130.here hx rfl (hb hby at_253) rfl rfl ?_
                show Steps p.tables e below (T130.setTop (mkF m 255 #[.val (.int p0), .val (.int p1), .val (.int p2), .val (.int (v0_5 p0)), .val (.int (p1 &&& (7 : Int32))), .val (.int (p2.toInt8.toInt32)), .val (.ref b2), .val (.ref b47), .val (.int (6 : Int32)), .val (.int (v0_5 p0)), .unset, .unset] [(.ref b47)])) t
                refine XS.iconst X130.here hx rfl (hb hby at_255) ?_
                show Steps p.tables e below (T130.setTop (mkF m 256 #[.val (.int p0), .val (.int p1), .val (.int p2), .val (.int (v0_5 p0)), .val (.int (p1 &&& (7 : Int32))), .val (.int (p2.toInt8.toInt32)), .val (.ref b2), .val (.ref b47), .val (.int (6 : Int32)), .val (.int (v0_5 p0)), .unset, .unset] [(.int (4 : Int32)), (.ref b47)])) t
                refine XS.iload X130.here hx rfl (hb hby at_256) rfl ?_
                show Steps p.tables e below (T130.setTop (mkF m 258 #[.val (.int p0), .val (.int p1), .val (.int p2), .val (.int (v0_5 p0)), .val (.int (p1 &&& (7 : Int32))), .val (.int (p2.toInt8.toInt32)), .val (.ref b2), .val (.ref b47), .val (.int (6 : Int32)), .val (.int (v0_5 p0)), .unset, .unset] [(.int (v0_5 p0)), (.int (4 : Int32)), (.ref b47)])) t
                refine XS.bipush X130.here hx rfl (hb hby at_258) ?_
                show Steps p.tables e below (T130.setTop (mkF m 260 #[.val (.int p0), .val (.int p1), .val (.int p2), .val (.int (v0_5 p0)), .val (.int (p1 &&& (7 : Int32))), .val (.int (p2.toInt8.toInt32)), .val (.ref b2), .val (.ref b47), .val (.int (6 : Int32)), .val (.int (v0_5 p0)), .unset, .unset] [(.int (16 : Int32)), (.int (v0_5 p0)), (.int (4 : Int32)), (.ref b47)])) t
                refine XS.idiv X130.here hx rfl (hb hby at_260) rfl (by decide) ?_
                show Steps p.tables e below (T130.setTop (mkF m 261 #[.val (.int p0), .val (.int p1), .val (.int p2), .val (.int (v0_5 p0)), .val (.int (p1 &&& (7 : Int32))), .val (.int (p2.toInt8.toInt32)), .val (.ref b2), .val (.ref b47), .val (.int (6 : Int32)), .val (.int (v0_5 p0)), .unset, .unset] [(.int ((v0_5 p0) / (16 : Int32))), (.int (4 : Int32)), (.ref b47)])) t
                refine XS.bipush X130.here hx rfl (hb hby at_261) ?_
                show Steps p.tables e below (T130.setTop (mkF m 263 #[.val (.int p0), .val (.int p1), .val (.int p2), .val (.int (v0_5 p0)), .val (.int (p1 &&& (7 : Int32))), .val (.int (p2.toInt8.toInt32)), .val (.ref b2), .val (.ref b47), .val (.int (6 : Int32)), .val (.int (v0_5 p0)), .unset, .unset] [(.int (16 : Int32)), (.int ((v0_5 p0) / (16 : Int32))), (.int (4 : Int32)), (.ref b47)])) t
                refine iremM X130 hx rfl (hb hby at_263) rfl (by decide) ?_
                exact k
              obtain ⟨_, _, ⟨T133, L133, kk133, n133⟩, -, X133, ⟨Lc133, hQ133, l133, y133, z133⟩, st133⟩ := Jvm.LawKit.callS X130 hx (y := (⟨"com/example/segmentry/segmentry/io/JsonTextEscapePinLaw", "hex", "(I)B"⟩ : MethodName)) hown (mvT hZ (hw _ (List.mem_of_getElem? (i := 2) rfl))) (mvT hZ (hw _ (List.mem_of_getElem? (i := 3) rfl))) (mvT hZ (hw _ (List.mem_of_getElem? (i := 4) rfl))) (mvT hZ (hw _ (List.mem_of_getElem? (i := 5) rfl))) (by decide) (backOf (W := 2) (rm1 l Z a0 hw [] (((v0_5 p0) / (16 : Int32)) % (16 : Int32))  h130 n0 (Nat.le_trans (Nat.le_trans (Nat.le_trans (Nat.le_trans (Nat.le_trans (Nat.le_trans (Nat.le_trans (Nat.le_trans (Nat.le_trans (Nat.le_trans (Nat.le_trans (Nat.le_trans (Nat.le_trans (Nat.le_trans (Nat.le_trans (Nat.le_trans (Nat.le_trans (Nat.le_trans (Nat.le_trans (Nat.le_trans Z0 E2.1) (Keep.of_wr W5).1) (Keep.of_wr W8).1) (Keep.of_wr W11).1) (Keep.of_wr W14).1) (Keep.of_wr W17).1) (Keep.of_wr W20).1) (Keep.of_wr W23).1) (Keep.of_wr W26).1) (Keep.of_wr W29).1) (Keep.of_wr W32).1) (Keep.of_wr W35).1) (Keep.of_wr W38).1) (Keep.of_wr W41).1) (Keep.of_wr W44).1) E47.1) (Keep.of_wr W117).1) (Keep.of_wr W120).1) (Keep.of_wr W125).1) (Keep.of_wr W130).1) ) hZ (hw _ (List.mem_of_getElem? (i := 5) rfl)) (hw _ (List.mem_of_getElem? (i := 4) rfl)) (by decide) (by decide)) (g := (mkF m 264 #[.val (.int p0), .val (.int p1), .val (.int p2), .val (.int (v0_5 p0)), .val (.int (p1 &&& (7 : Int32))), .val (.int (p2.toInt8.toInt32)), .val (.ref b2), .val (.ref b47), .val (.int (6 : Int32)), .val (.int (v0_5 p0)), .unset, .unset] [(.int (((v0_5 p0) / (16 : Int32)) % (16 : Int32))), (.int (4 : Int32)), (.ref b47)])) rfl (by rw [hml]; rfl) (argsL := [(.int (((v0_5 p0) / (16 : Int32)) % (16 : Int32)))]) (rest := [(.int (4 : Int32)), (.ref b47)]) (lenOf pd_0 rfl) rfl (by show 2 * 0 + _ ≤ _; exact Nat.le_of_eq rfl) (hb hby at_264) (fun _ _ => ⟨rfl, e130, (by decide : 2 + 0 ≤ _), (by decide : 20 + 0 ≤ _)⟩)
              dsimp only [Pt.U, Pt.locs, Pt.cells, Pt.slots] at X133 l133 y133 z133 st133 hQ133
              subst l133 y133 z133
              obtain ⟨rfl, N133q, eh133⟩ := hQ133
              have N133 := Fr.app N130 N133q
              have k134 : own_Go p e below (s₁.setTop (entryFrame m #[(.int p0), (.int p1), (.int p2)] maxLocals)) (T133.setTop (mkF m 267 #[.val (.int p0), .val (.int p1), .val (.int p2), .val (.int (v0_5 p0)), .val (.int (p1 &&& (7 : Int32))), .val (.int (p2.toInt8.toInt32)), .val (.ref b2), .val (.ref b47), .val (.int (6 : Int32)), .val (.int (v0_5 p0)), .unset, .unset] [(.int (f1 (((v0_5 p0) / (16 : Int32)) % (16 : Int32)))), (.int (4 : Int32)), (.ref b47)])) := fun t k => k132 t (st133 t k)
              obtain ⟨T135, h135, X135, e135, W135, V135, st135⟩ := own_bst X133 hx hZ eh133 V130' (j := (4 : Int32)) (by decide) (by decide) (g := (mkF m 267 #[.val (.int p0), .val (.int p1), .val (.int p2), .val (.int (v0_5 p0)), .val (.int (p1 &&& (7 : Int32))), .val (.int (p2.toInt8.toInt32)), .val (.ref b2), .val (.ref b47), .val (.int (6 : Int32)), .val (.int (v0_5 p0)), .unset, .unset] [(.int (f1 (((v0_5 p0) / (16 : Int32)) % (16 : Int32)))), (.int (4 : Int32)), (.ref b47)])) rfl rfl (hb hby at_267)
              have V135' : own_By Z h135 b47 6 (B0_267 p0) := V135
              have N135 := Fr.snoc X135 N133 g_b47
              have k136 : own_Go p e below (s₁.setTop (entryFrame m #[(.int p0), (.int p1), (.int p2)] maxLocals)) (T135.setTop (mkF m 268 #[.val (.int p0), .val (.int p1), .val (.int p2), .val (.int (v0_5 p0)), .val (.int (p1 &&& (7 : Int32))), .val (.int (p2.toInt8.toInt32)), .val (.ref b2), .val (.ref b47), .val (.int (6 : Int32)), .val (.int (v0_5 p0)), .unset, .unset] [])) := fun t k => k134 t (st135 t k)
              have k137 : own_Go p e below (s₁.setTop (entryFrame m #[(.int p0), (.int p1), (.int p2)] maxLocals)) (T135.setTop (mkF m 276 #[.val (.int p0), .val (.int p1), .val (.int p2), .val (.int (v0_5 p0)), .val (.int (p1 &&& (7 : Int32))), .val (.int (p2.toInt8.toInt32)), .val (.ref b2), .val (.ref b47), .val (.int (6 : Int32)), .val (.int (v0_5 p0)), .unset, .unset] [(.int ((v0_5 p0) % (16 : Int32))), (.int (5 : Int32)), (.ref b47)])) := by
                intro t k
                refine k136 t ?_
                show Steps p.tables e below (T135.setTop (mkF m 268 #[.val (.int p0), .val (.int p1), .val (.int p2), .val (.int (v0_5 p0)), .val (.int (p1 &&& (7 : Int32))), .val (.int (p2.toInt8.toInt32)), .val (.ref b2), .val (.ref b47), .val (.int (6 : Int32)), .val (.int (v0_5 p0)), .unset, .unset] [])) t
                refine XS.aload X135.here hx rfl (hb hby at_268) rfl rfl ?_
                show Steps p.tables e below (T135.setTop (mkF m 270 #[.val (.int p0), .val (.int p1), .val (.int p2), .val (.int (v0_5 p0)), .val (.int (p1 &&& (7 : Int32))), .val (.int (p2.toInt8.toInt32)), .val (.ref b2), .val (.ref b47), .val (.int (6 : Int32)), .val (.int (v0_5 p0)), .unset, .unset] [(.ref b47)])) t
                refine XS.iconst X135.here hx rfl (hb hby at_270) ?_
                show Steps p.tables e below (T135.setTop (mkF m 271 #[.val (.int p0), .val (.int p1), .val (.int p2), .val (.int (v0_5 p0)), .val (.int (p1 &&& (7 : Int32))), .val (.int (p2.toInt8.toInt32)), .val (.ref b2), .val (.ref b47), .val (.int (6 : Int32)), .val (.int (v0_5 p0)), .unset, .unset] [(.int (5 : Int32)), (.ref b47)])) t
                refine XS.iload X135.here hx rfl (hb hby at_271) rfl ?_
                show Steps p.tables e below (T135.setTop (mkF m 273 #[.val (.int p0), .val (.int p1), .val (.int p2), .val (.int (v0_5 p0)), .val (.int (p1 &&& (7 : Int32))), .val (.int (p2.toInt8.toInt32)), .val (.ref b2), .val (.ref b47), .val (.int (6 : Int32)), .val (.int (v0_5 p0)), .unset, .unset] [(.int (v0_5 p0)), (.int (5 : Int32)), (.ref b47)])) t
                refine XS.bipush X135.here hx rfl (hb hby at_273) ?_
                show Steps p.tables e below (T135.setTop (mkF m 275 #[.val (.int p0), .val (.int p1), .val (.int p2), .val (.int (v0_5 p0)), .val (.int (p1 &&& (7 : Int32))), .val (.int (p2.toInt8.toInt32)), .val (.ref b2), .val (.ref b47), .val (.int (6 : Int32)), .val (.int (v0_5 p0)), .unset, .unset] [(.int (16 : Int32)), (.int (v0_5 p0)), (.int (5 : Int32)), (.ref b47)])) t
                refine iremM X135 hx rfl (hb hby at_275) rfl (by decide) ?_
                exact k
              obtain ⟨_, _, ⟨T138, L138, kk138, n138⟩, -, X138, ⟨Lc138, hQ138, l138, y138, z138⟩, st138⟩ := Jvm.LawKit.callS X135 hx (y := (⟨"com/example/segmentry/segmentry/io/JsonTextEscapePinLaw", "hex", "(I)B"⟩ : MethodName)) hown (mvT hZ (hw _ (List.mem_of_getElem? (i := 2) rfl))) (mvT hZ (hw _ (List.mem_of_getElem? (i := 3) rfl))) (mvT hZ (hw _ (List.mem_of_getElem? (i := 4) rfl))) (mvT hZ (hw _ (List.mem_of_getElem? (i := 5) rfl))) (by decide) (backOf (W := 2) (rm1 l Z a0 hw [] ((v0_5 p0) % (16 : Int32))  h135 n0 (Nat.le_trans (Nat.le_trans (Nat.le_trans (Nat.le_trans (Nat.le_trans (Nat.le_trans (Nat.le_trans (Nat.le_trans (Nat.le_trans (Nat.le_trans (Nat.le_trans (Nat.le_trans (Nat.le_trans (Nat.le_trans (Nat.le_trans (Nat.le_trans (Nat.le_trans (Nat.le_trans (Nat.le_trans (Nat.le_trans (Nat.le_trans Z0 E2.1) (Keep.of_wr W5).1) (Keep.of_wr W8).1) (Keep.of_wr W11).1) (Keep.of_wr W14).1) (Keep.of_wr W17).1) (Keep.of_wr W20).1) (Keep.of_wr W23).1) (Keep.of_wr W26).1) (Keep.of_wr W29).1) (Keep.of_wr W32).1) (Keep.of_wr W35).1) (Keep.of_wr W38).1) (Keep.of_wr W41).1) (Keep.of_wr W44).1) E47.1) (Keep.of_wr W117).1) (Keep.of_wr W120).1) (Keep.of_wr W125).1) (Keep.of_wr W130).1) (Keep.of_wr W135).1) ) hZ (hw _ (List.mem_of_getElem? (i := 5) rfl)) (hw _ (List.mem_of_getElem? (i := 4) rfl)) (by decide) (by decide)) (g := (mkF m 276 #[.val (.int p0), .val (.int p1), .val (.int p2), .val (.int (v0_5 p0)), .val (.int (p1 &&& (7 : Int32))), .val (.int (p2.toInt8.toInt32)), .val (.ref b2), .val (.ref b47), .val (.int (6 : Int32)), .val (.int (v0_5 p0)), .unset, .unset] [(.int ((v0_5 p0) % (16 : Int32))), (.int (5 : Int32)), (.ref b47)])) rfl (by rw [hml]; rfl) (argsL := [(.int ((v0_5 p0) % (16 : Int32)))]) (rest := [(.int (5 : Int32)), (.ref b47)]) (lenOf pd_0 rfl) rfl (by show 2 * 0 + _ ≤ _; exact Nat.le_of_eq rfl) (hb hby at_276) (fun _ _ => ⟨rfl, e135, (by decide : 2 + 0 ≤ _), (by decide : 20 + 0 ≤ _)⟩)
              dsimp only [Pt.U, Pt.locs, Pt.cells, Pt.slots] at X138 l138 y138 z138 st138 hQ138
              subst l138 y138 z138
              obtain ⟨rfl, N138q, eh138⟩ := hQ138
              have N138 := Fr.app N135 N138q
              have k139 : own_Go p e below (s₁.setTop (entryFrame m #[(.int p0), (.int p1), (.int p2)] maxLocals)) (T138.setTop (mkF m 279 #[.val (.int p0), .val (.int p1), .val (.int p2), .val (.int (v0_5 p0)), .val (.int (p1 &&& (7 : Int32))), .val (.int (p2.toInt8.toInt32)), .val (.ref b2), .val (.ref b47), .val (.int (6 : Int32)), .val (.int (v0_5 p0)), .unset, .unset] [(.int (f1 ((v0_5 p0) % (16 : Int32)))), (.int (5 : Int32)), (.ref b47)])) := fun t k => k137 t (st138 t k)
              obtain ⟨T140, h140, X140, e140, W140, V140, st140⟩ := own_bst X138 hx hZ eh138 V135' (j := (5 : Int32)) (by decide) (by decide) (g := (mkF m 279 #[.val (.int p0), .val (.int p1), .val (.int p2), .val (.int (v0_5 p0)), .val (.int (p1 &&& (7 : Int32))), .val (.int (p2.toInt8.toInt32)), .val (.ref b2), .val (.ref b47), .val (.int (6 : Int32)), .val (.int (v0_5 p0)), .unset, .unset] [(.int (f1 ((v0_5 p0) % (16 : Int32)))), (.int (5 : Int32)), (.ref b47)])) rfl rfl (hb hby at_279)
              have V140' : own_By Z h140 b47 6 (B0_279 p0) := V140
              have N140 := Fr.snoc X140 N138 g_b47
              have k141 : own_Go p e below (s₁.setTop (entryFrame m #[(.int p0), (.int p1), (.int p2)] maxLocals)) (T140.setTop (mkF m 280 #[.val (.int p0), .val (.int p1), .val (.int p2), .val (.int (v0_5 p0)), .val (.int (p1 &&& (7 : Int32))), .val (.int (p2.toInt8.toInt32)), .val (.ref b2), .val (.ref b47), .val (.int (6 : Int32)), .val (.int (v0_5 p0)), .unset, .unset] [])) := fun t k => k139 t (st140 t k)
              exact ⟨_, _, _, X140, e140, N140, ((((((((((((((((((((((V_H.ext E2).other W5 (Nat.ne_of_lt (Nat.lt_of_lt_of_le V_H.lt (Nat.le_of_eq g2.symm)))).other W8 (Nat.ne_of_lt (Nat.lt_of_lt_of_le V_H.lt (Nat.le_of_eq g2.symm)))).other W11 (Nat.ne_of_lt (Nat.lt_of_lt_of_le V_H.lt (Nat.le_of_eq g2.symm)))).other W14 (Nat.ne_of_lt (Nat.lt_of_lt_of_le V_H.lt (Nat.le_of_eq g2.symm)))).other W17 (Nat.ne_of_lt (Nat.lt_of_lt_of_le V_H.lt (Nat.le_of_eq g2.symm)))).other W20 (Nat.ne_of_lt (Nat.lt_of_lt_of_le V_H.lt (Nat.le_of_eq g2.symm)))).other W23 (Nat.ne_of_lt (Nat.lt_of_lt_of_le V_H.lt (Nat.le_of_eq g2.symm)))).other W26 (Nat.ne_of_lt (Nat.lt_of_lt_of_le V_H.lt (Nat.le_of_eq g2.symm)))).other W29 (Nat.ne_of_lt (Nat.lt_of_lt_of_le V_H.lt (Nat.le_of_eq g2.symm)))).other W32 (Nat.ne_of_lt (Nat.lt_of_lt_of_le V_H.lt (Nat.le_of_eq g2.symm)))).other W35 (Nat.ne_of_lt (Nat.lt_of_lt_of_le V_H.lt (Nat.le_of_eq g2.symm)))).other W38 (Nat.ne_of_lt (Nat.lt_of_lt_of_le V_H.lt (Nat.le_of_eq g2.symm)))).other W41 (Nat.ne_of_lt (Nat.lt_of_lt_of_le V_H.lt (Nat.le_of_eq g2.symm)))).other W44 (Nat.ne_of_lt (Nat.lt_of_lt_of_le V_H.lt (Nat.le_of_eq g2.symm)))).ext E47).other W117 (Nat.ne_of_lt (Nat.lt_of_lt_of_le (((((((((((((((V_H.ext E2).other W5 (Nat.ne_of_lt (Nat.lt_of_lt_of_le V_H.lt (Nat.le_of_eq g2.symm)))).other W8 (Nat.ne_of_lt (Nat.lt_of_lt_of_le V_H.lt (Nat.le_of_eq g2.symm)))).other W11 (Nat.ne_of_lt (Nat.lt_of_lt_of_le V_H.lt (Nat.le_of_eq g2.symm)))).other W14 (Nat.ne_of_lt (Nat.lt_of_lt_of_le V_H.lt (Nat.le_of_eq g2.symm)))).other W17 (Nat.ne_of_lt (Nat.lt_of_lt_of_le V_H.lt (Nat.le_of_eq g2.symm)))).other W20 (Nat.ne_of_lt (Nat.lt_of_lt_of_le V_H.lt (Nat.le_of_eq g2.symm)))).other W23 (Nat.ne_of_lt (Nat.lt_of_lt_of_le V_H.lt (Nat.le_of_eq g2.symm)))).other W26 (Nat.ne_of_lt (Nat.lt_of_lt_of_le V_H.lt (Nat.le_of_eq g2.symm)))).other W29 (Nat.ne_of_lt (Nat.lt_of_lt_of_le V_H.lt (Nat.le_of_eq g2.symm)))).other W32 (Nat.ne_of_lt (Nat.lt_of_lt_of_le V_H.lt (Nat.le_of_eq g2.symm)))).other W35 (Nat.ne_of_lt (Nat.lt_of_lt_of_le V_H.lt (Nat.le_of_eq g2.symm)))).other W38 (Nat.ne_of_lt (Nat.lt_of_lt_of_le V_H.lt (Nat.le_of_eq g2.symm)))).other W41 (Nat.ne_of_lt (Nat.lt_of_lt_of_le V_H.lt (Nat.le_of_eq g2.symm)))).other W44 (Nat.ne_of_lt (Nat.lt_of_lt_of_le V_H.lt (Nat.le_of_eq g2.symm)))).lt (Nat.le_of_eq g47.symm)))).other W120 (Nat.ne_of_lt (Nat.lt_of_lt_of_le (((((((((((((((V_H.ext E2).other W5 (Nat.ne_of_lt (Nat.lt_of_lt_of_le V_H.lt (Nat.le_of_eq g2.symm)))).other W8 (Nat.ne_of_lt (Nat.lt_of_lt_of_le V_H.lt (Nat.le_of_eq g2.symm)))).other W11 (Nat.ne_of_lt (Nat.lt_of_lt_of_le V_H.lt (Nat.le_of_eq g2.symm)))).other W14 (Nat.ne_of_lt (Nat.lt_of_lt_of_le V_H.lt (Nat.le_of_eq g2.symm)))).other W17 (Nat.ne_of_lt (Nat.lt_of_lt_of_le V_H.lt (Nat.le_of_eq g2.symm)))).other W20 (Nat.ne_of_lt (Nat.lt_of_lt_of_le V_H.lt (Nat.le_of_eq g2.symm)))).other W23 (Nat.ne_of_lt (Nat.lt_of_lt_of_le V_H.lt (Nat.le_of_eq g2.symm)))).other W26 (Nat.ne_of_lt (Nat.lt_of_lt_of_le V_H.lt (Nat.le_of_eq g2.symm)))).other W29 (Nat.ne_of_lt (Nat.lt_of_lt_of_le V_H.lt (Nat.le_of_eq g2.symm)))).other W32 (Nat.ne_of_lt (Nat.lt_of_lt_of_le V_H.lt (Nat.le_of_eq g2.symm)))).other W35 (Nat.ne_of_lt (Nat.lt_of_lt_of_le V_H.lt (Nat.le_of_eq g2.symm)))).other W38 (Nat.ne_of_lt (Nat.lt_of_lt_of_le V_H.lt (Nat.le_of_eq g2.symm)))).other W41 (Nat.ne_of_lt (Nat.lt_of_lt_of_le V_H.lt (Nat.le_of_eq g2.symm)))).other W44 (Nat.ne_of_lt (Nat.lt_of_lt_of_le V_H.lt (Nat.le_of_eq g2.symm)))).lt (Nat.le_of_eq g47.symm)))).other W125 (Nat.ne_of_lt (Nat.lt_of_lt_of_le (((((((((((((((V_H.ext E2).other W5 (Nat.ne_of_lt (Nat.lt_of_lt_of_le V_H.lt (Nat.le_of_eq g2.symm)))).other W8 (Nat.ne_of_lt (Nat.lt_of_lt_of_le V_H.lt (Nat.le_of_eq g2.symm)))).other W11 (Nat.ne_of_lt (Nat.lt_of_lt_of_le V_H.lt (Nat.le_of_eq g2.symm)))).other W14 (Nat.ne_of_lt (Nat.lt_of_lt_of_le V_H.lt (Nat.le_of_eq g2.symm)))).other W17 (Nat.ne_of_lt (Nat.lt_of_lt_of_le V_H.lt (Nat.le_of_eq g2.symm)))).other W20 (Nat.ne_of_lt (Nat.lt_of_lt_of_le V_H.lt (Nat.le_of_eq g2.symm)))).other W23 (Nat.ne_of_lt (Nat.lt_of_lt_of_le V_H.lt (Nat.le_of_eq g2.symm)))).other W26 (Nat.ne_of_lt (Nat.lt_of_lt_of_le V_H.lt (Nat.le_of_eq g2.symm)))).other W29 (Nat.ne_of_lt (Nat.lt_of_lt_of_le V_H.lt (Nat.le_of_eq g2.symm)))).other W32 (Nat.ne_of_lt (Nat.lt_of_lt_of_le V_H.lt (Nat.le_of_eq g2.symm)))).other W35 (Nat.ne_of_lt (Nat.lt_of_lt_of_le V_H.lt (Nat.le_of_eq g2.symm)))).other W38 (Nat.ne_of_lt (Nat.lt_of_lt_of_le V_H.lt (Nat.le_of_eq g2.symm)))).other W41 (Nat.ne_of_lt (Nat.lt_of_lt_of_le V_H.lt (Nat.le_of_eq g2.symm)))).other W44 (Nat.ne_of_lt (Nat.lt_of_lt_of_le V_H.lt (Nat.le_of_eq g2.symm)))).lt (Nat.le_of_eq g47.symm)))).other W130 (Nat.ne_of_lt (Nat.lt_of_lt_of_le (((((((((((((((V_H.ext E2).other W5 (Nat.ne_of_lt (Nat.lt_of_lt_of_le V_H.lt (Nat.le_of_eq g2.symm)))).other W8 (Nat.ne_of_lt (Nat.lt_of_lt_of_le V_H.lt (Nat.le_of_eq g2.symm)))).other W11 (Nat.ne_of_lt (Nat.lt_of_lt_of_le V_H.lt (Nat.le_of_eq g2.symm)))).other W14 (Nat.ne_of_lt (Nat.lt_of_lt_of_le V_H.lt (Nat.le_of_eq g2.symm)))).other W17 (Nat.ne_of_lt (Nat.lt_of_lt_of_le V_H.lt (Nat.le_of_eq g2.symm)))).other W20 (Nat.ne_of_lt (Nat.lt_of_lt_of_le V_H.lt (Nat.le_of_eq g2.symm)))).other W23 (Nat.ne_of_lt (Nat.lt_of_lt_of_le V_H.lt (Nat.le_of_eq g2.symm)))).other W26 (Nat.ne_of_lt (Nat.lt_of_lt_of_le V_H.lt (Nat.le_of_eq g2.symm)))).other W29 (Nat.ne_of_lt (Nat.lt_of_lt_of_le V_H.lt (Nat.le_of_eq g2.symm)))).other W32 (Nat.ne_of_lt (Nat.lt_of_lt_of_le V_H.lt (Nat.le_of_eq g2.symm)))).other W35 (Nat.ne_of_lt (Nat.lt_of_lt_of_le V_H.lt (Nat.le_of_eq g2.symm)))).other W38 (Nat.ne_of_lt (Nat.lt_of_lt_of_le V_H.lt (Nat.le_of_eq g2.symm)))).other W41 (Nat.ne_of_lt (Nat.lt_of_lt_of_le V_H.lt (Nat.le_of_eq g2.symm)))).other W44 (Nat.ne_of_lt (Nat.lt_of_lt_of_le V_H.lt (Nat.le_of_eq g2.symm)))).lt (Nat.le_of_eq g47.symm)))).other W135 (Nat.ne_of_lt (Nat.lt_of_lt_of_le (((((((((((((((V_H.ext E2).other W5 (Nat.ne_of_lt (Nat.lt_of_lt_of_le V_H.lt (Nat.le_of_eq g2.symm)))).other W8 (Nat.ne_of_lt (Nat.lt_of_lt_of_le V_H.lt (Nat.le_of_eq g2.symm)))).other W11 (Nat.ne_of_lt (Nat.lt_of_lt_of_le V_H.lt (Nat.le_of_eq g2.symm)))).other W14 (Nat.ne_of_lt (Nat.lt_of_lt_of_le V_H.lt (Nat.le_of_eq g2.symm)))).other W17 (Nat.ne_of_lt (Nat.lt_of_lt_of_le V_H.lt (Nat.le_of_eq g2.symm)))).other W20 (Nat.ne_of_lt (Nat.lt_of_lt_of_le V_H.lt (Nat.le_of_eq g2.symm)))).other W23 (Nat.ne_of_lt (Nat.lt_of_lt_of_le V_H.lt (Nat.le_of_eq g2.symm)))).other W26 (Nat.ne_of_lt (Nat.lt_of_lt_of_le V_H.lt (Nat.le_of_eq g2.symm)))).other W29 (Nat.ne_of_lt (Nat.lt_of_lt_of_le V_H.lt (Nat.le_of_eq g2.symm)))).other W32 (Nat.ne_of_lt (Nat.lt_of_lt_of_le V_H.lt (Nat.le_of_eq g2.symm)))).other W35 (Nat.ne_of_lt (Nat.lt_of_lt_of_le V_H.lt (Nat.le_of_eq g2.symm)))).other W38 (Nat.ne_of_lt (Nat.lt_of_lt_of_le V_H.lt (Nat.le_of_eq g2.symm)))).other W41 (Nat.ne_of_lt (Nat.lt_of_lt_of_le V_H.lt (Nat.le_of_eq g2.symm)))).other W44 (Nat.ne_of_lt (Nat.lt_of_lt_of_le V_H.lt (Nat.le_of_eq g2.symm)))).lt (Nat.le_of_eq g47.symm)))).other W140 (Nat.ne_of_lt (Nat.lt_of_lt_of_le (((((((((((((((V_H.ext E2).other W5 (Nat.ne_of_lt (Nat.lt_of_lt_of_le V_H.lt (Nat.le_of_eq g2.symm)))).other W8 (Nat.ne_of_lt (Nat.lt_of_lt_of_le V_H.lt (Nat.le_of_eq g2.symm)))).other W11 (Nat.ne_of_lt (Nat.lt_of_lt_of_le V_H.lt (Nat.le_of_eq g2.symm)))).other W14 (Nat.ne_of_lt (Nat.lt_of_lt_of_le V_H.lt (Nat.le_of_eq g2.symm)))).other W17 (Nat.ne_of_lt (Nat.lt_of_lt_of_le V_H.lt (Nat.le_of_eq g2.symm)))).other W20 (Nat.ne_of_lt (Nat.lt_of_lt_of_le V_H.lt (Nat.le_of_eq g2.symm)))).other W23 (Nat.ne_of_lt (Nat.lt_of_lt_of_le V_H.lt (Nat.le_of_eq g2.symm)))).other W26 (Nat.ne_of_lt (Nat.lt_of_lt_of_le V_H.lt (Nat.le_of_eq g2.symm)))).other W29 (Nat.ne_of_lt (Nat.lt_of_lt_of_le V_H.lt (Nat.le_of_eq g2.symm)))).other W32 (Nat.ne_of_lt (Nat.lt_of_lt_of_le V_H.lt (Nat.le_of_eq g2.symm)))).other W35 (Nat.ne_of_lt (Nat.lt_of_lt_of_le V_H.lt (Nat.le_of_eq g2.symm)))).other W38 (Nat.ne_of_lt (Nat.lt_of_lt_of_le V_H.lt (Nat.le_of_eq g2.symm)))).other W41 (Nat.ne_of_lt (Nat.lt_of_lt_of_le V_H.lt (Nat.le_of_eq g2.symm)))).other W44 (Nat.ne_of_lt (Nat.lt_of_lt_of_le V_H.lt (Nat.le_of_eq g2.symm)))).lt (Nat.le_of_eq g47.symm)))), ((((((((((((((((((((((S_H.ext E2).wr W5).wr W8).wr W11).wr W14).wr W17).wr W20).wr W23).wr W26).wr W29).wr W32).wr W35).wr W38).wr W41).wr W44).ext E47).wr W117).wr W120).wr W125).wr W130).wr W135).wr W140), (((((((V44'.ext E47).other W117 (Nat.ne_of_lt (Nat.lt_of_lt_of_le V44'.lt (Nat.le_of_eq g47.symm)))).other W120 (Nat.ne_of_lt (Nat.lt_of_lt_of_le V44'.lt (Nat.le_of_eq g47.symm)))).other W125 (Nat.ne_of_lt (Nat.lt_of_lt_of_le V44'.lt (Nat.le_of_eq g47.symm)))).other W130 (Nat.ne_of_lt (Nat.lt_of_lt_of_le V44'.lt (Nat.le_of_eq g47.symm)))).other W135 (Nat.ne_of_lt (Nat.lt_of_lt_of_le V44'.lt (Nat.le_of_eq g47.symm)))).other W140 (Nat.ne_of_lt (Nat.lt_of_lt_of_le V44'.lt (Nat.le_of_eq g47.symm)))), (by rw [show (m0_280_b47 p0) = (B0_279 p0) from (by unfold m0_280_b47; rw [if_neg hc127_51, if_neg hc134_60, if_neg hc160_69, if_pos hc167_106, if_neg hc187_108])]; exact V140'), (Nat.le_trans (Nat.le_trans (Nat.le_trans (Nat.le_trans (Nat.le_trans (Nat.le_trans (Nat.le_trans (Nat.le_trans (Nat.le_trans (Nat.le_trans (Nat.le_trans (Nat.le_trans (Nat.le_trans (Nat.le_trans (Nat.le_trans (Nat.le_trans (Nat.le_trans (Nat.le_trans (Nat.le_trans (Nat.le_trans (Nat.le_trans (Nat.le_trans Z0 E2.1) (Keep.of_wr W5).1) (Keep.of_wr W8).1) (Keep.of_wr W11).1) (Keep.of_wr W14).1) (Keep.of_wr W17).1) (Keep.of_wr W20).1) (Keep.of_wr W23).1) (Keep.of_wr W26).1) (Keep.of_wr W29).1) (Keep.of_wr W32).1) (Keep.of_wr W35).1) (Keep.of_wr W38).1) (Keep.of_wr W41).1) (Keep.of_wr W44).1) E47.1) (Keep.of_wr W117).1) (Keep.of_wr W120).1) (Keep.of_wr W125).1) (Keep.of_wr W130).1) (Keep.of_wr W135).1) (Keep.of_wr W140).1), (by rw [show (m0_280_l8 p0) = (6 : Int32) from (by unfold m0_280_l8; rw [if_neg hc127_51, if_neg hc134_60, if_neg hc160_69, if_pos hc167_106, if_neg hc187_108])]; exact k141)⟩
          · have k142 : own_Go p e below (s₁.setTop (entryFrame m #[(.int p0), (.int p1), (.int p2)] maxLocals)) (T47.setTop (mkF m 179 #[.val (.int p0), .val (.int p1), .val (.int p2), .val (.int (v0_5 p0)), .val (.int (p1 &&& (7 : Int32))), .val (.int (p2.toInt8.toInt32)), .val (.ref b2), .val (.ref b47), .val (.int (1 : Int32)), .val (.int (v0_5 p0)), .unset, .unset] [(.int ((v0_5 p0).toInt8.toInt32)), (.int (0 : Int32)), (.ref b47)])) := by
              intro t k
              refine k105 t ?_
              show Steps p.tables e below (T47.setTop (mkF m 167 #[.val (.int p0), .val (.int p1), .val (.int p2), .val (.int (v0_5 p0)), .val (.int (p1 &&& (7 : Int32))), .val (.int (p2.toInt8.toInt32)), .val (.ref b2), .val (.ref b47), .unset, .val (.int (v0_5 p0)), .unset, .unset] [(.int (126 : Int32)), (.int (v0_5 p0))])) t
              refine XS.icmpNo X47.here hx rfl (hb hby at_167) rfl (flt hc167_106).2.2.1 ?_
              show Steps p.tables e below (T47.setTop (mkF m 170 #[.val (.int p0), .val (.int p1), .val (.int p2), .val (.int (v0_5 p0)), .val (.int (p1 &&& (7 : Int32))), .val (.int (p2.toInt8.toInt32)), .val (.ref b2), .val (.ref b47), .unset, .val (.int (v0_5 p0)), .unset, .unset] [])) t
              refine XS.iconst X47.here hx rfl (hb hby at_170) ?_
              show Steps p.tables e below (T47.setTop (mkF m 171 #[.val (.int p0), .val (.int p1), .val (.int p2), .val (.int (v0_5 p0)), .val (.int (p1 &&& (7 : Int32))), .val (.int (p2.toInt8.toInt32)), .val (.ref b2), .val (.ref b47), .unset, .val (.int (v0_5 p0)), .unset, .unset] [(.int (1 : Int32))])) t
              refine XS.istore X47.here hx rfl (hb hby at_171) rfl (l' := #[.val (.int p0), .val (.int p1), .val (.int p2), .val (.int (v0_5 p0)), .val (.int (p1 &&& (7 : Int32))), .val (.int (p2.toInt8.toInt32)), .val (.ref b2), .val (.ref b47), .val (.int (1 : Int32)), .val (.int (v0_5 p0)), .unset, .unset]) rfl ?_
              show Steps p.tables e below (T47.setTop (mkF m 173 #[.val (.int p0), .val (.int p1), .val (.int p2), .val (.int (v0_5 p0)), .val (.int (p1 &&& (7 : Int32))), .val (.int (p2.toInt8.toInt32)), .val (.ref b2), .val (.ref b47), .val (.int (1 : Int32)), .val (.int (v0_5 p0)), .unset, .unset] [])) t
              refine XS.aload X47.here hx rfl (hb hby at_173) rfl rfl ?_
              show Steps p.tables e below (T47.setTop (mkF m 175 #[.val (.int p0), .val (.int p1), .val (.int p2), .val (.int (v0_5 p0)), .val (.int (p1 &&& (7 : Int32))), .val (.int (p2.toInt8.toInt32)), .val (.ref b2), .val (.ref b47), .val (.int (1 : Int32)), .val (.int (v0_5 p0)), .unset, .unset] [(.ref b47)])) t
              refine XS.iconst X47.here hx rfl (hb hby at_175) ?_
              show Steps p.tables e below (T47.setTop (mkF m 176 #[.val (.int p0), .val (.int p1), .val (.int p2), .val (.int (v0_5 p0)), .val (.int (p1 &&& (7 : Int32))), .val (.int (p2.toInt8.toInt32)), .val (.ref b2), .val (.ref b47), .val (.int (1 : Int32)), .val (.int (v0_5 p0)), .unset, .unset] [(.int (0 : Int32)), (.ref b47)])) t
              refine XS.iload X47.here hx rfl (hb hby at_176) rfl ?_
              show Steps p.tables e below (T47.setTop (mkF m 178 #[.val (.int p0), .val (.int p1), .val (.int p2), .val (.int (v0_5 p0)), .val (.int (p1 &&& (7 : Int32))), .val (.int (p2.toInt8.toInt32)), .val (.ref b2), .val (.ref b47), .val (.int (1 : Int32)), .val (.int (v0_5 p0)), .unset, .unset] [(.int (v0_5 p0)), (.int (0 : Int32)), (.ref b47)])) t
              refine XS.i2b X47.here hx rfl (hb hby at_178) rfl ?_
              exact k
            obtain ⟨T143, h143, X143, e143, W143, V143, st143⟩ := own_bst X47 hx hZ e47 V47 (j := (0 : Int32)) (by decide) (by decide) (g := (mkF m 179 #[.val (.int p0), .val (.int p1), .val (.int p2), .val (.int (v0_5 p0)), .val (.int (p1 &&& (7 : Int32))), .val (.int (p2.toInt8.toInt32)), .val (.ref b2), .val (.ref b47), .val (.int (1 : Int32)), .val (.int (v0_5 p0)), .unset, .unset] [(.int ((v0_5 p0).toInt8.toInt32)), (.int (0 : Int32)), (.ref b47)])) rfl rfl (hb hby at_179)
            have V143' : own_By Z h143 b47 6 (B0_179 p0) := V143
            have N143 := Fr.snoc X143 N44 g_b47
            have k144 : own_Go p e below (s₁.setTop (entryFrame m #[(.int p0), (.int p1), (.int p2)] maxLocals)) (T143.setTop (mkF m 180 #[.val (.int p0), .val (.int p1), .val (.int p2), .val (.int (v0_5 p0)), .val (.int (p1 &&& (7 : Int32))), .val (.int (p2.toInt8.toInt32)), .val (.ref b2), .val (.ref b47), .val (.int (1 : Int32)), .val (.int (v0_5 p0)), .unset, .unset] [])) := fun t k => k142 t (st143 t k)
            have k145 : own_Go p e below (s₁.setTop (entryFrame m #[(.int p0), (.int p1), (.int p2)] maxLocals)) (T143.setTop (mkF m 280 #[.val (.int p0), .val (.int p1), .val (.int p2), .val (.int (v0_5 p0)), .val (.int (p1 &&& (7 : Int32))), .val (.int (p2.toInt8.toInt32)), .val (.ref b2), .val (.ref b47), .val (.int (1 : Int32)), .val (.int (v0_5 p0)), .unset, .unset] [])) := by
              intro t k
              refine k144 t ?_
              show Steps p.tables e below (T143.setTop (mkF m 180 #[.val (.int p0), .val (.int p1), .val (.int p2), .val (.int (v0_5 p0)), .val (.int (p1 &&& (7 : Int32))), .val (.int (p2.toInt8.toInt32)), .val (.ref b2), .val (.ref b47), .val (.int (1 : Int32)), .val (.int (v0_5 p0)), .unset, .unset] [])) t
              refine XS.goto X143.here hx rfl (pc0 := 180) (pc' := 280) rfl (hb hby at_180) (by decide) (by decide) ?_
              exact k
            exact ⟨_, _, _, X143, e143, N143, (((((((((((((((((V_H.ext E2).other W5 (Nat.ne_of_lt (Nat.lt_of_lt_of_le V_H.lt (Nat.le_of_eq g2.symm)))).other W8 (Nat.ne_of_lt (Nat.lt_of_lt_of_le V_H.lt (Nat.le_of_eq g2.symm)))).other W11 (Nat.ne_of_lt (Nat.lt_of_lt_of_le V_H.lt (Nat.le_of_eq g2.symm)))).other W14 (Nat.ne_of_lt (Nat.lt_of_lt_of_le V_H.lt (Nat.le_of_eq g2.symm)))).other W17 (Nat.ne_of_lt (Nat.lt_of_lt_of_le V_H.lt (Nat.le_of_eq g2.symm)))).other W20 (Nat.ne_of_lt (Nat.lt_of_lt_of_le V_H.lt (Nat.le_of_eq g2.symm)))).other W23 (Nat.ne_of_lt (Nat.lt_of_lt_of_le V_H.lt (Nat.le_of_eq g2.symm)))).other W26 (Nat.ne_of_lt (Nat.lt_of_lt_of_le V_H.lt (Nat.le_of_eq g2.symm)))).other W29 (Nat.ne_of_lt (Nat.lt_of_lt_of_le V_H.lt (Nat.le_of_eq g2.symm)))).other W32 (Nat.ne_of_lt (Nat.lt_of_lt_of_le V_H.lt (Nat.le_of_eq g2.symm)))).other W35 (Nat.ne_of_lt (Nat.lt_of_lt_of_le V_H.lt (Nat.le_of_eq g2.symm)))).other W38 (Nat.ne_of_lt (Nat.lt_of_lt_of_le V_H.lt (Nat.le_of_eq g2.symm)))).other W41 (Nat.ne_of_lt (Nat.lt_of_lt_of_le V_H.lt (Nat.le_of_eq g2.symm)))).other W44 (Nat.ne_of_lt (Nat.lt_of_lt_of_le V_H.lt (Nat.le_of_eq g2.symm)))).ext E47).other W143 (Nat.ne_of_lt (Nat.lt_of_lt_of_le (((((((((((((((V_H.ext E2).other W5 (Nat.ne_of_lt (Nat.lt_of_lt_of_le V_H.lt (Nat.le_of_eq g2.symm)))).other W8 (Nat.ne_of_lt (Nat.lt_of_lt_of_le V_H.lt (Nat.le_of_eq g2.symm)))).other W11 (Nat.ne_of_lt (Nat.lt_of_lt_of_le V_H.lt (Nat.le_of_eq g2.symm)))).other W14 (Nat.ne_of_lt (Nat.lt_of_lt_of_le V_H.lt (Nat.le_of_eq g2.symm)))).other W17 (Nat.ne_of_lt (Nat.lt_of_lt_of_le V_H.lt (Nat.le_of_eq g2.symm)))).other W20 (Nat.ne_of_lt (Nat.lt_of_lt_of_le V_H.lt (Nat.le_of_eq g2.symm)))).other W23 (Nat.ne_of_lt (Nat.lt_of_lt_of_le V_H.lt (Nat.le_of_eq g2.symm)))).other W26 (Nat.ne_of_lt (Nat.lt_of_lt_of_le V_H.lt (Nat.le_of_eq g2.symm)))).other W29 (Nat.ne_of_lt (Nat.lt_of_lt_of_le V_H.lt (Nat.le_of_eq g2.symm)))).other W32 (Nat.ne_of_lt (Nat.lt_of_lt_of_le V_H.lt (Nat.le_of_eq g2.symm)))).other W35 (Nat.ne_of_lt (Nat.lt_of_lt_of_le V_H.lt (Nat.le_of_eq g2.symm)))).other W38 (Nat.ne_of_lt (Nat.lt_of_lt_of_le V_H.lt (Nat.le_of_eq g2.symm)))).other W41 (Nat.ne_of_lt (Nat.lt_of_lt_of_le V_H.lt (Nat.le_of_eq g2.symm)))).other W44 (Nat.ne_of_lt (Nat.lt_of_lt_of_le V_H.lt (Nat.le_of_eq g2.symm)))).lt (Nat.le_of_eq g47.symm)))), (((((((((((((((((S_H.ext E2).wr W5).wr W8).wr W11).wr W14).wr W17).wr W20).wr W23).wr W26).wr W29).wr W32).wr W35).wr W38).wr W41).wr W44).ext E47).wr W143), ((V44'.ext E47).other W143 (Nat.ne_of_lt (Nat.lt_of_lt_of_le V44'.lt (Nat.le_of_eq g47.symm)))), (by rw [show (m0_280_b47 p0) = (B0_179 p0) from (by unfold m0_280_b47; rw [if_neg hc127_51, if_neg hc134_60, if_neg hc160_69, if_neg hc167_106])]; exact V143'), (Nat.le_trans (Nat.le_trans (Nat.le_trans (Nat.le_trans (Nat.le_trans (Nat.le_trans (Nat.le_trans (Nat.le_trans (Nat.le_trans (Nat.le_trans (Nat.le_trans (Nat.le_trans (Nat.le_trans (Nat.le_trans (Nat.le_trans (Nat.le_trans (Nat.le_trans Z0 E2.1) (Keep.of_wr W5).1) (Keep.of_wr W8).1) (Keep.of_wr W11).1) (Keep.of_wr W14).1) (Keep.of_wr W17).1) (Keep.of_wr W20).1) (Keep.of_wr W23).1) (Keep.of_wr W26).1) (Keep.of_wr W29).1) (Keep.of_wr W32).1) (Keep.of_wr W35).1) (Keep.of_wr W38).1) (Keep.of_wr W41).1) (Keep.of_wr W44).1) E47.1) (Keep.of_wr W143).1), (by rw [show (m0_280_l8 p0) = (1 : Int32) from (by unfold m0_280_l8; rw [if_neg hc127_51, if_neg hc134_60, if_neg hc160_69, if_neg hc167_106])]; exact k145)⟩
  have k146 : own_Go p e below (s₁.setTop (entryFrame m #[(.int p0), (.int p1), (.int p2)] maxLocals)) (T50.setTop (mkF m 285 #[.val (.int p0), .val (.int p1), .val (.int p2), .val (.int (v0_5 p0)), .val (.int (p1 &&& (7 : Int32))), .val (.int (p2.toInt8.toInt32)), .val (.ref b2), .val (.ref b47), .val (.int (m0_280_l8 p0)), .val (.int (v0_5 p0)), .unset, .unset] [(.int (p1 &&& (7 : Int32))), (.ref b2), (.int (v0_5 p0))])) := by
    intro t k
    refine k50 t ?_
    show Steps p.tables e below (T50.setTop (mkF m 280 #[.val (.int p0), .val (.int p1), .val (.int p2), .val (.int (v0_5 p0)), .val (.int (p1 &&& (7 : Int32))), .val (.int (p2.toInt8.toInt32)), .val (.ref b2), .val (.ref b47), .val (.int (m0_280_l8 p0)), .val (.int (v0_5 p0)), .unset, .unset] [])) t
    refine XS.iloadN X50.here hx rfl (hb hby at_280) rfl ?_
    show Steps p.tables e below (T50.setTop (mkF m 281 #[.val (.int p0), .val (.int p1), .val (.int p2), .val (.int (v0_5 p0)), .val (.int (p1 &&& (7 : Int32))), .val (.int (p2.toInt8.toInt32)), .val (.ref b2), .val (.ref b47), .val (.int (m0_280_l8 p0)), .val (.int (v0_5 p0)), .unset, .unset] [(.int (v0_5 p0))])) t
    refine XS.aload X50.here hx rfl (hb hby at_281) rfl rfl ?_
    show Steps p.tables e below (T50.setTop (mkF m 283 #[.val (.int p0), .val (.int p1), .val (.int p2), .val (.int (v0_5 p0)), .val (.int (p1 &&& (7 : Int32))), .val (.int (p2.toInt8.toInt32)), .val (.ref b2), .val (.ref b47), .val (.int (m0_280_l8 p0)), .val (.int (v0_5 p0)), .unset, .unset] [(.ref b2), (.int (v0_5 p0))])) t
    refine XS.iload X50.here hx rfl (hb hby at_283) rfl ?_
    exact k
  obtain ⟨_, _, ⟨T147, L147, kk147, n147⟩, -, X147, ⟨Lc147, hQ147, l147, y147, z147⟩, st147⟩ := Jvm.LawKit.callS X50 hx (y := (⟨"com/example/segmentry/segmentry/io/JsonText", "escape", "(C[BI)I"⟩ : MethodName)) hown (mvT hZ (hw _ (List.mem_of_getElem? (i := 6) rfl))) (mvT hZ (hw _ (List.mem_of_getElem? (i := 7) rfl))) (mvT hZ (hw _ (List.mem_of_getElem? (i := 8) rfl))) (mvT hZ (hw _ (List.mem_of_getElem? (i := 9) rfl))) (by decide) (backOf (W := 0) (rm2 l Z a0 hw [] (v0_5 p0) b2 (p1 &&& (7 : Int32)) (B0_113 p2) HX wH h50 n0 Zs50 g_b2 c50_2 c50_1 c50_0 (Ne.symm ne_50_b2_wH) (own_char p0) (own_and7 p1)) hZ (hw _ (List.mem_of_getElem? (i := 9) rfl)) (hw _ (List.mem_of_getElem? (i := 8) rfl)) (by decide) (by decide)) (g := (mkF m 285 #[.val (.int p0), .val (.int p1), .val (.int p2), .val (.int (v0_5 p0)), .val (.int (p1 &&& (7 : Int32))), .val (.int (p2.toInt8.toInt32)), .val (.ref b2), .val (.ref b47), .val (.int (m0_280_l8 p0)), .val (.int (v0_5 p0)), .unset, .unset] [(.int (p1 &&& (7 : Int32))), (.ref b2), (.int (v0_5 p0))])) rfl (by rw [hml]; rfl) (argsL := [(.int (v0_5 p0)), (.ref b2), (.int (p1 &&& (7 : Int32)))]) (rest := []) (lenOf pd_1 rfl) rfl (by show 2 * 0 + _ ≤ _; exact Nat.le_of_eq rfl) (hb hby at_285) (fun _ _ => ⟨rfl, e50, (by decide : 2 + 0 ≤ _), (by decide : 20 + 0 ≤ _)⟩)
  dsimp only [Pt.U, Pt.locs, Pt.cells, Pt.slots] at X147 l147 y147 z147 st147 hQ147
  subst l147 y147 z147
  obtain ⟨rfl, N147q, Kq147, gB147⟩ := hQ147
  have N147 := Fr.app N50 N147q
  have gB147' : own_By Z T147.heap b2 14 (B0_esc p0 p1 p2 HX) := gB147
  have k148 : own_Go p e below (s₁.setTop (entryFrame m #[(.int p0), (.int p1), (.int p2)] maxLocals)) (T147.setTop (mkF m 288 #[.val (.int p0), .val (.int p1), .val (.int p2), .val (.int (v0_5 p0)), .val (.int (p1 &&& (7 : Int32))), .val (.int (p2.toInt8.toInt32)), .val (.ref b2), .val (.ref b47), .val (.int (m0_280_l8 p0)), .val (.int (v0_5 p0)), .unset, .unset] [(.int (f2 (v0_5 p0) (p1 &&& (7 : Int32)) (B0_113 p2) HX))])) := fun t k => k146 t (st147 t k)
  have k149 : own_Go p e below (s₁.setTop (entryFrame m #[(.int p0), (.int p1), (.int p2)] maxLocals)) (T147.setTop (mkF m 297 #[.val (.int p0), .val (.int p1), .val (.int p2), .val (.int (v0_5 p0)), .val (.int (p1 &&& (7 : Int32))), .val (.int (p2.toInt8.toInt32)), .val (.ref b2), .val (.ref b47), .val (.int (m0_280_l8 p0)), .val (.int (v0_5 p0)), .val (.int (v0_288 p0 p1 p2 HX)), .unset] [(.int ((p1 &&& (7 : Int32)) + (m0_280_l8 p0))), (.int (v0_288 p0 p1 p2 HX))])) := by
    intro t k
    refine k148 t ?_
    show Steps p.tables e below (T147.setTop (mkF m 288 #[.val (.int p0), .val (.int p1), .val (.int p2), .val (.int (v0_5 p0)), .val (.int (p1 &&& (7 : Int32))), .val (.int (p2.toInt8.toInt32)), .val (.ref b2), .val (.ref b47), .val (.int (m0_280_l8 p0)), .val (.int (v0_5 p0)), .unset, .unset] [(.int (f2 (v0_5 p0) (p1 &&& (7 : Int32)) (B0_113 p2) HX))])) t
    refine XS.istore X147.here hx rfl (hb hby at_288) rfl (l' := #[.val (.int p0), .val (.int p1), .val (.int p2), .val (.int (v0_5 p0)), .val (.int (p1 &&& (7 : Int32))), .val (.int (p2.toInt8.toInt32)), .val (.ref b2), .val (.ref b47), .val (.int (m0_280_l8 p0)), .val (.int (v0_5 p0)), .val (.int (v0_288 p0 p1 p2 HX)), .unset]) rfl ?_
    show Steps p.tables e below (T147.setTop (mkF m 290 #[.val (.int p0), .val (.int p1), .val (.int p2), .val (.int (v0_5 p0)), .val (.int (p1 &&& (7 : Int32))), .val (.int (p2.toInt8.toInt32)), .val (.ref b2), .val (.ref b47), .val (.int (m0_280_l8 p0)), .val (.int (v0_5 p0)), .val (.int (v0_288 p0 p1 p2 HX)), .unset] [])) t
    refine XS.iload X147.here hx rfl (hb hby at_290) rfl ?_
    show Steps p.tables e below (T147.setTop (mkF m 292 #[.val (.int p0), .val (.int p1), .val (.int p2), .val (.int (v0_5 p0)), .val (.int (p1 &&& (7 : Int32))), .val (.int (p2.toInt8.toInt32)), .val (.ref b2), .val (.ref b47), .val (.int (m0_280_l8 p0)), .val (.int (v0_5 p0)), .val (.int (v0_288 p0 p1 p2 HX)), .unset] [(.int (v0_288 p0 p1 p2 HX))])) t
    refine XS.iload X147.here hx rfl (hb hby at_292) rfl ?_
    show Steps p.tables e below (T147.setTop (mkF m 294 #[.val (.int p0), .val (.int p1), .val (.int p2), .val (.int (v0_5 p0)), .val (.int (p1 &&& (7 : Int32))), .val (.int (p2.toInt8.toInt32)), .val (.ref b2), .val (.ref b47), .val (.int (m0_280_l8 p0)), .val (.int (v0_5 p0)), .val (.int (v0_288 p0 p1 p2 HX)), .unset] [(.int (p1 &&& (7 : Int32))), (.int (v0_288 p0 p1 p2 HX))])) t
    refine XS.iload X147.here hx rfl (hb hby at_294) rfl ?_
    show Steps p.tables e below (T147.setTop (mkF m 296 #[.val (.int p0), .val (.int p1), .val (.int p2), .val (.int (v0_5 p0)), .val (.int (p1 &&& (7 : Int32))), .val (.int (p2.toInt8.toInt32)), .val (.ref b2), .val (.ref b47), .val (.int (m0_280_l8 p0)), .val (.int (v0_5 p0)), .val (.int (v0_288 p0 p1 p2 HX)), .unset] [(.int (m0_280_l8 p0)), (.int (p1 &&& (7 : Int32))), (.int (v0_288 p0 p1 p2 HX))])) t
    refine XS.iadd X147.here hx rfl (hb hby at_296) rfl ?_
    exact k
  have k150 : own_Go p e below (s₁.setTop (entryFrame m #[(.int p0), (.int p1), (.int p2)] maxLocals)) (T147.setTop (mkF m 305 #[.val (.int p0), .val (.int p1), .val (.int p2), .val (.int (v0_5 p0)), .val (.int (p1 &&& (7 : Int32))), .val (.int (p2.toInt8.toInt32)), .val (.ref b2), .val (.ref b47), .val (.int (m0_280_l8 p0)), .val (.int (v0_5 p0)), .val (.int (v0_288 p0 p1 p2 HX)), .unset] [(.int (m0_305_s0 p0 p1 p2 HX))])) := by
    by_cases hc297_151 : (v0_288 p0 p1 p2 HX) = ((p1 &&& (7 : Int32)) + (m0_280_l8 p0))
    · have k152 : own_Go p e below (s₁.setTop (entryFrame m #[(.int p0), (.int p1), (.int p2)] maxLocals)) (T147.setTop (mkF m 305 #[.val (.int p0), .val (.int p1), .val (.int p2), .val (.int (v0_5 p0)), .val (.int (p1 &&& (7 : Int32))), .val (.int (p2.toInt8.toInt32)), .val (.ref b2), .val (.ref b47), .val (.int (m0_280_l8 p0)), .val (.int (v0_5 p0)), .val (.int (v0_288 p0 p1 p2 HX)), .unset] [(.int (1 : Int32))])) := by
        intro t k
        refine k149 t ?_
        show Steps p.tables e below (T147.setTop (mkF m 297 #[.val (.int p0), .val (.int p1), .val (.int p2), .val (.int (v0_5 p0)), .val (.int (p1 &&& (7 : Int32))), .val (.int (p2.toInt8.toInt32)), .val (.ref b2), .val (.ref b47), .val (.int (m0_280_l8 p0)), .val (.int (v0_5 p0)), .val (.int (v0_288 p0 p1 p2 HX)), .unset] [(.int ((p1 &&& (7 : Int32)) + (m0_280_l8 p0))), (.int (v0_288 p0 p1 p2 HX))])) t
        refine XS.icmpNo X147.here hx rfl (hb hby at_297) rfl (teq hc297_151).2 ?_
        show Steps p.tables e below (T147.setTop (mkF m 300 #[.val (.int p0), .val (.int p1), .val (.int p2), .val (.int (v0_5 p0)), .val (.int (p1 &&& (7 : Int32))), .val (.int (p2.toInt8.toInt32)), .val (.ref b2), .val (.ref b47), .val (.int (m0_280_l8 p0)), .val (.int (v0_5 p0)), .val (.int (v0_288 p0 p1 p2 HX)), .unset] [])) t
        refine XS.iconst X147.here hx rfl (hb hby at_300) ?_
        show Steps p.tables e below (T147.setTop (mkF m 301 #[.val (.int p0), .val (.int p1), .val (.int p2), .val (.int (v0_5 p0)), .val (.int (p1 &&& (7 : Int32))), .val (.int (p2.toInt8.toInt32)), .val (.ref b2), .val (.ref b47), .val (.int (m0_280_l8 p0)), .val (.int (v0_5 p0)), .val (.int (v0_288 p0 p1 p2 HX)), .unset] [(.int (1 : Int32))])) t
        refine XS.goto X147.here hx rfl (pc0 := 301) (pc' := 305) rfl (hb hby at_301) (by decide) (by decide) ?_
        exact k
      exact (by rw [show (m0_305_s0 p0 p1 p2 HX) = (1 : Int32) from (by unfold m0_305_s0; rw [if_pos hc297_151])]; exact k152)
    · have k153 : own_Go p e below (s₁.setTop (entryFrame m #[(.int p0), (.int p1), (.int p2)] maxLocals)) (T147.setTop (mkF m 305 #[.val (.int p0), .val (.int p1), .val (.int p2), .val (.int (v0_5 p0)), .val (.int (p1 &&& (7 : Int32))), .val (.int (p2.toInt8.toInt32)), .val (.ref b2), .val (.ref b47), .val (.int (m0_280_l8 p0)), .val (.int (v0_5 p0)), .val (.int (v0_288 p0 p1 p2 HX)), .unset] [(.int (0 : Int32))])) := by
        intro t k
        refine k149 t ?_
        show Steps p.tables e below (T147.setTop (mkF m 297 #[.val (.int p0), .val (.int p1), .val (.int p2), .val (.int (v0_5 p0)), .val (.int (p1 &&& (7 : Int32))), .val (.int (p2.toInt8.toInt32)), .val (.ref b2), .val (.ref b47), .val (.int (m0_280_l8 p0)), .val (.int (v0_5 p0)), .val (.int (v0_288 p0 p1 p2 HX)), .unset] [(.int ((p1 &&& (7 : Int32)) + (m0_280_l8 p0))), (.int (v0_288 p0 p1 p2 HX))])) t
        refine XS.icmpYes X147.here hx rfl (pc0 := 297) (pc' := 304) rfl (hb hby at_297) rfl (feq hc297_151).2 (by decide) (by decide) ?_
        show Steps p.tables e below (T147.setTop (mkF m 304 #[.val (.int p0), .val (.int p1), .val (.int p2), .val (.int (v0_5 p0)), .val (.int (p1 &&& (7 : Int32))), .val (.int (p2.toInt8.toInt32)), .val (.ref b2), .val (.ref b47), .val (.int (m0_280_l8 p0)), .val (.int (v0_5 p0)), .val (.int (v0_288 p0 p1 p2 HX)), .unset] [])) t
        refine XS.iconst X147.here hx rfl (hb hby at_304) ?_
        exact k
      exact (by rw [show (m0_305_s0 p0 p1 p2 HX) = (0 : Int32) from (by unfold m0_305_s0; rw [if_neg hc297_151])]; exact k153)
  have k154 : own_Go p e below (s₁.setTop (entryFrame m #[(.int p0), (.int p1), (.int p2)] maxLocals)) (T147.setTop (mkF m 309 #[.val (.int p0), .val (.int p1), .val (.int p2), .val (.int (v0_5 p0)), .val (.int (p1 &&& (7 : Int32))), .val (.int (p2.toInt8.toInt32)), .val (.ref b2), .val (.ref b47), .val (.int (m0_280_l8 p0)), .val (.int (v0_5 p0)), .val (.int (v0_288 p0 p1 p2 HX)), .val (.int (m0_305_s0 p0 p1 p2 HX))] [(.int (m0_305_s0 p0 p1 p2 HX))])) := by
    intro t k
    refine k150 t ?_
    show Steps p.tables e below (T147.setTop (mkF m 305 #[.val (.int p0), .val (.int p1), .val (.int p2), .val (.int (v0_5 p0)), .val (.int (p1 &&& (7 : Int32))), .val (.int (p2.toInt8.toInt32)), .val (.ref b2), .val (.ref b47), .val (.int (m0_280_l8 p0)), .val (.int (v0_5 p0)), .val (.int (v0_288 p0 p1 p2 HX)), .unset] [(.int (m0_305_s0 p0 p1 p2 HX))])) t
    refine XS.istore X147.here hx rfl (hb hby at_305) rfl (l' := #[.val (.int p0), .val (.int p1), .val (.int p2), .val (.int (v0_5 p0)), .val (.int (p1 &&& (7 : Int32))), .val (.int (p2.toInt8.toInt32)), .val (.ref b2), .val (.ref b47), .val (.int (m0_280_l8 p0)), .val (.int (v0_5 p0)), .val (.int (v0_288 p0 p1 p2 HX)), .val (.int (m0_305_s0 p0 p1 p2 HX))]) rfl ?_
    show Steps p.tables e below (T147.setTop (mkF m 307 #[.val (.int p0), .val (.int p1), .val (.int p2), .val (.int (v0_5 p0)), .val (.int (p1 &&& (7 : Int32))), .val (.int (p2.toInt8.toInt32)), .val (.ref b2), .val (.ref b47), .val (.int (m0_280_l8 p0)), .val (.int (v0_5 p0)), .val (.int (v0_288 p0 p1 p2 HX)), .val (.int (m0_305_s0 p0 p1 p2 HX))] [])) t
    refine XS.iload X147.here hx rfl (hb hby at_307) rfl ?_
    exact k
  obtain ⟨T155, L155, X155, e155, N155, k155⟩ : ∃ (T155 : State) (L155 : List Loc), Stand p l e room_1 s m #[(.int p0), (.int p1), (.int p2)] below meth c T155 L155 2 20 ∧ T155.heap = T147.heap ∧ Fr n0 L155 ∧ own_Go p e below (s₁.setTop (entryFrame m #[(.int p0), (.int p1), (.int p2)] maxLocals)) (T155.setTop (mkF m 368 #[.val (.int p0), .val (.int p1), .val (.int p2), .val (.int (v0_5 p0)), .val (.int (p1 &&& (7 : Int32))), .val (.int (p2.toInt8.toInt32)), .val (.ref b2), .val (.ref b47), .val (.int (m0_280_l8 p0)), .val (.int (v0_5 p0)), .val (.int (v0_288 p0 p1 p2 HX)), .val (.int (m0_305_s0 p0 p1 p2 HX))] [(.int (m0_368_s0 p0 p1 p2 HX))])) := by
    by_cases hc309_156 : (m0_305_s0 p0 p1 p2 HX) = (0 : Int32)
    · have k157 : own_Go p e below (s₁.setTop (entryFrame m #[(.int p0), (.int p1), (.int p2)] maxLocals)) (T147.setTop (mkF m 368 #[.val (.int p0), .val (.int p1), .val (.int p2), .val (.int (v0_5 p0)), .val (.int (p1 &&& (7 : Int32))), .val (.int (p2.toInt8.toInt32)), .val (.ref b2), .val (.ref b47), .val (.int (m0_280_l8 p0)), .val (.int (v0_5 p0)), .val (.int (v0_288 p0 p1 p2 HX)), .val (.int (m0_305_s0 p0 p1 p2 HX))] [(.int (0 : Int32))])) := by
        intro t k
        refine k154 t ?_
        show Steps p.tables e below (T147.setTop (mkF m 309 #[.val (.int p0), .val (.int p1), .val (.int p2), .val (.int (v0_5 p0)), .val (.int (p1 &&& (7 : Int32))), .val (.int (p2.toInt8.toInt32)), .val (.ref b2), .val (.ref b47), .val (.int (m0_280_l8 p0)), .val (.int (v0_5 p0)), .val (.int (v0_288 p0 p1 p2 HX)), .val (.int (m0_305_s0 p0 p1 p2 HX))] [(.int (m0_305_s0 p0 p1 p2 HX))])) t
        refine XS.ifYes X147.here hx rfl (pc0 := 309) (pc' := 367) rfl (hb hby at_309) rfl ((if0 _ _).trans (teq hc309_156).1) (by decide) (by decide) ?_
        show Steps p.tables e below (T147.setTop (mkF m 367 #[.val (.int p0), .val (.int p1), .val (.int p2), .val (.int (v0_5 p0)), .val (.int (p1 &&& (7 : Int32))), .val (.int (p2.toInt8.toInt32)), .val (.ref b2), .val (.ref b47), .val (.int (m0_280_l8 p0)), .val (.int (v0_5 p0)), .val (.int (v0_288 p0 p1 p2 HX)), .val (.int (m0_305_s0 p0 p1 p2 HX))] [])) t
        refine XS.iconst X147.here hx rfl (hb hby at_367) ?_
        exact k
      exact ⟨_, _, X147, rfl, N147, (by rw [show (m0_368_s0 p0 p1 p2 HX) = (0 : Int32) from (by unfold m0_368_s0; rw [if_pos hc309_156])]; exact k157)⟩
    · have k158 : own_Go p e below (s₁.setTop (entryFrame m #[(.int p0), (.int p1), (.int p2)] maxLocals)) (T147.setTop (mkF m 323 #[.val (.int p0), .val (.int p1), .val (.int p2), .val (.int (v0_5 p0)), .val (.int (p1 &&& (7 : Int32))), .val (.int (p2.toInt8.toInt32)), .val (.ref b2), .val (.ref b47), .val (.int (m0_280_l8 p0)), .val (.int (v0_5 p0)), .val (.int (v0_288 p0 p1 p2 HX)), .val (.int (m0_305_s0 p0 p1 p2 HX))] [(.int (p2.toInt8.toInt32)), (.ref b47), (.int (m0_280_l8 p0)), (.int (p1 &&& (7 : Int32))), (.int (0 : Int32)), (.ref b2)])) := by
        intro t k
        refine k154 t ?_
        show Steps p.tables e below (T147.setTop (mkF m 309 #[.val (.int p0), .val (.int p1), .val (.int p2), .val (.int (v0_5 p0)), .val (.int (p1 &&& (7 : Int32))), .val (.int (p2.toInt8.toInt32)), .val (.ref b2), .val (.ref b47), .val (.int (m0_280_l8 p0)), .val (.int (v0_5 p0)), .val (.int (v0_288 p0 p1 p2 HX)), .val (.int (m0_305_s0 p0 p1 p2 HX))] [(.int (m0_305_s0 p0 p1 p2 HX))])) t
        refine XS.ifNo X147.here hx rfl (hb hby at_309) rfl ((if0 _ _).trans (feq hc309_156).1) ?_
        show Steps p.tables e below (T147.setTop (mkF m 312 #[.val (.int p0), .val (.int p1), .val (.int p2), .val (.int (v0_5 p0)), .val (.int (p1 &&& (7 : Int32))), .val (.int (p2.toInt8.toInt32)), .val (.ref b2), .val (.ref b47), .val (.int (m0_280_l8 p0)), .val (.int (v0_5 p0)), .val (.int (v0_288 p0 p1 p2 HX)), .val (.int (m0_305_s0 p0 p1 p2 HX))] [])) t
        refine XS.aload X147.here hx rfl (hb hby at_312) rfl rfl ?_
        show Steps p.tables e below (T147.setTop (mkF m 314 #[.val (.int p0), .val (.int p1), .val (.int p2), .val (.int (v0_5 p0)), .val (.int (p1 &&& (7 : Int32))), .val (.int (p2.toInt8.toInt32)), .val (.ref b2), .val (.ref b47), .val (.int (m0_280_l8 p0)), .val (.int (v0_5 p0)), .val (.int (v0_288 p0 p1 p2 HX)), .val (.int (m0_305_s0 p0 p1 p2 HX))] [(.ref b2)])) t
        refine XS.iconst X147.here hx rfl (hb hby at_314) ?_
        show Steps p.tables e below (T147.setTop (mkF m 315 #[.val (.int p0), .val (.int p1), .val (.int p2), .val (.int (v0_5 p0)), .val (.int (p1 &&& (7 : Int32))), .val (.int (p2.toInt8.toInt32)), .val (.ref b2), .val (.ref b47), .val (.int (m0_280_l8 p0)), .val (.int (v0_5 p0)), .val (.int (v0_288 p0 p1 p2 HX)), .val (.int (m0_305_s0 p0 p1 p2 HX))] [(.int (0 : Int32)), (.ref b2)])) t
        refine XS.iload X147.here hx rfl (hb hby at_315) rfl ?_
        show Steps p.tables e below (T147.setTop (mkF m 317 #[.val (.int p0), .val (.int p1), .val (.int p2), .val (.int (v0_5 p0)), .val (.int (p1 &&& (7 : Int32))), .val (.int (p2.toInt8.toInt32)), .val (.ref b2), .val (.ref b47), .val (.int (m0_280_l8 p0)), .val (.int (v0_5 p0)), .val (.int (v0_288 p0 p1 p2 HX)), .val (.int (m0_305_s0 p0 p1 p2 HX))] [(.int (p1 &&& (7 : Int32))), (.int (0 : Int32)), (.ref b2)])) t
        refine XS.iload X147.here hx rfl (hb hby at_317) rfl ?_
        show Steps p.tables e below (T147.setTop (mkF m 319 #[.val (.int p0), .val (.int p1), .val (.int p2), .val (.int (v0_5 p0)), .val (.int (p1 &&& (7 : Int32))), .val (.int (p2.toInt8.toInt32)), .val (.ref b2), .val (.ref b47), .val (.int (m0_280_l8 p0)), .val (.int (v0_5 p0)), .val (.int (v0_288 p0 p1 p2 HX)), .val (.int (m0_305_s0 p0 p1 p2 HX))] [(.int (m0_280_l8 p0)), (.int (p1 &&& (7 : Int32))), (.int (0 : Int32)), (.ref b2)])) t
        refine XS.aload X147.here hx rfl (hb hby at_319) rfl rfl ?_
        show Steps p.tables e below (T147.setTop (mkF m 321 #[.val (.int p0), .val (.int p1), .val (.int p2), .val (.int (v0_5 p0)), .val (.int (p1 &&& (7 : Int32))), .val (.int (p2.toInt8.toInt32)), .val (.ref b2), .val (.ref b47), .val (.int (m0_280_l8 p0)), .val (.int (v0_5 p0)), .val (.int (v0_288 p0 p1 p2 HX)), .val (.int (m0_305_s0 p0 p1 p2 HX))] [(.ref b47), (.int (m0_280_l8 p0)), (.int (p1 &&& (7 : Int32))), (.int (0 : Int32)), (.ref b2)])) t
        refine XS.iload X147.here hx rfl (hb hby at_321) rfl ?_
        exact k
      obtain ⟨_, _, ⟨T159, L159, kk159, n159⟩, -, X159, ⟨Lc159, hQ159, l159, y159, z159⟩, st159⟩ := Jvm.LawKit.callS X147 hx (y := (⟨"com/example/segmentry/segmentry/io/JsonTextEscapePinLaw", "ok", "([BIII[BB)Z"⟩ : MethodName)) hown (mvT hZ (hw _ (List.mem_of_getElem? (i := 12) rfl))) (mvT hZ (hw _ (List.mem_of_getElem? (i := 13) rfl))) (mvT hZ (hw _ (List.mem_of_getElem? (i := 4) rfl))) (mvT hZ (hw _ (List.mem_of_getElem? (i := 14) rfl))) (by decide) (backOf (W := 0) (rm3 l Z a0 hw [] b2 (0 : Int32) (p1 &&& (7 : Int32)) (m0_280_l8 p0) b47 (p2.toInt8.toInt32) (B0_esc p0 p1 p2 HX) (m0_280_b47 p0) T147.heap n0 (Nat.le_trans Zs50 Kq147.1) gB147' (c50_3.keep Kq147 (ninS (Ne.symm ne_50_b2_b47) nin0)) ⟨by decide, by decide⟩ (own_k6 _ _ _ (own_n6 p0))) hZ (hw _ (List.mem_of_getElem? (i := 14) rfl)) (hw _ (List.mem_of_getElem? (i := 4) rfl)) (by decide) (by decide)) (g := (mkF m 323 #[.val (.int p0), .val (.int p1), .val (.int p2), .val (.int (v0_5 p0)), .val (.int (p1 &&& (7 : Int32))), .val (.int (p2.toInt8.toInt32)), .val (.ref b2), .val (.ref b47), .val (.int (m0_280_l8 p0)), .val (.int (v0_5 p0)), .val (.int (v0_288 p0 p1 p2 HX)), .val (.int (m0_305_s0 p0 p1 p2 HX))] [(.int (p2.toInt8.toInt32)), (.ref b47), (.int (m0_280_l8 p0)), (.int (p1 &&& (7 : Int32))), (.int (0 : Int32)), (.ref b2)])) rfl (by rw [hml]; rfl) (argsL := [(.ref b2), (.int (0 : Int32)), (.int (p1 &&& (7 : Int32))), (.int (m0_280_l8 p0)), (.ref b47), (.int (p2.toInt8.toInt32))]) (rest := []) (lenOf pd_2 rfl) rfl (by show 2 * 0 + _ ≤ _; exact Nat.le_of_eq rfl) (hb hby at_323) (fun _ _ => ⟨rfl, rfl, (by decide : 2 + 0 ≤ _), (by decide : 20 + 0 ≤ _)⟩)
      dsimp only [Pt.U, Pt.locs, Pt.cells, Pt.slots] at X159 l159 y159 z159 st159 hQ159
      subst l159 y159 z159
      obtain ⟨rfl, N159q, eh159⟩ := hQ159
      have N159 := Fr.app N147 N159q
      have k160 : own_Go p e below (s₁.setTop (entryFrame m #[(.int p0), (.int p1), (.int p2)] maxLocals)) (T159.setTop (mkF m 326 #[.val (.int p0), .val (.int p1), .val (.int p2), .val (.int (v0_5 p0)), .val (.int (p1 &&& (7 : Int32))), .val (.int (p2.toInt8.toInt32)), .val (.ref b2), .val (.ref b47), .val (.int (m0_280_l8 p0)), .val (.int (v0_5 p0)), .val (.int (v0_288 p0 p1 p2 HX)), .val (.int (m0_305_s0 p0 p1 p2 HX))] [(.int (f3 (0 : Int32) (p1 &&& (7 : Int32)) (m0_280_l8 p0) (p2.toInt8.toInt32) (B0_esc p0 p1 p2 HX) (m0_280_b47 p0)))])) := fun t k => k158 t (st159 t k)
      by_cases hc326_161 : (f3 (0 : Int32) (p1 &&& (7 : Int32)) (m0_280_l8 p0) (p2.toInt8.toInt32) (B0_esc p0 p1 p2 HX) (m0_280_b47 p0)) = (0 : Int32)
      · have k162 : own_Go p e below (s₁.setTop (entryFrame m #[(.int p0), (.int p1), (.int p2)] maxLocals)) (T159.setTop (mkF m 368 #[.val (.int p0), .val (.int p1), .val (.int p2), .val (.int (v0_5 p0)), .val (.int (p1 &&& (7 : Int32))), .val (.int (p2.toInt8.toInt32)), .val (.ref b2), .val (.ref b47), .val (.int (m0_280_l8 p0)), .val (.int (v0_5 p0)), .val (.int (v0_288 p0 p1 p2 HX)), .val (.int (m0_305_s0 p0 p1 p2 HX))] [(.int (0 : Int32))])) := by
          intro t k
          refine k160 t ?_
          show Steps p.tables e below (T159.setTop (mkF m 326 #[.val (.int p0), .val (.int p1), .val (.int p2), .val (.int (v0_5 p0)), .val (.int (p1 &&& (7 : Int32))), .val (.int (p2.toInt8.toInt32)), .val (.ref b2), .val (.ref b47), .val (.int (m0_280_l8 p0)), .val (.int (v0_5 p0)), .val (.int (v0_288 p0 p1 p2 HX)), .val (.int (m0_305_s0 p0 p1 p2 HX))] [(.int (f3 (0 : Int32) (p1 &&& (7 : Int32)) (m0_280_l8 p0) (p2.toInt8.toInt32) (B0_esc p0 p1 p2 HX) (m0_280_b47 p0)))])) t
          refine XS.ifYes X159.here hx rfl (pc0 := 326) (pc' := 367) rfl (hb hby at_326) rfl ((if0 _ _).trans (teq hc326_161).1) (by decide) (by decide) ?_
          show Steps p.tables e below (T159.setTop (mkF m 367 #[.val (.int p0), .val (.int p1), .val (.int p2), .val (.int (v0_5 p0)), .val (.int (p1 &&& (7 : Int32))), .val (.int (p2.toInt8.toInt32)), .val (.ref b2), .val (.ref b47), .val (.int (m0_280_l8 p0)), .val (.int (v0_5 p0)), .val (.int (v0_288 p0 p1 p2 HX)), .val (.int (m0_305_s0 p0 p1 p2 HX))] [])) t
          refine XS.iconst X159.here hx rfl (hb hby at_367) ?_
          exact k
        exact ⟨_, _, X159, eh159, N159, (by rw [show (m0_368_s0 p0 p1 p2 HX) = (0 : Int32) from (by unfold m0_368_s0; rw [if_neg hc309_156, if_pos hc326_161])]; exact k162)⟩
      · have k163 : own_Go p e below (s₁.setTop (entryFrame m #[(.int p0), (.int p1), (.int p2)] maxLocals)) (T159.setTop (mkF m 340 #[.val (.int p0), .val (.int p1), .val (.int p2), .val (.int (v0_5 p0)), .val (.int (p1 &&& (7 : Int32))), .val (.int (p2.toInt8.toInt32)), .val (.ref b2), .val (.ref b47), .val (.int (m0_280_l8 p0)), .val (.int (v0_5 p0)), .val (.int (v0_288 p0 p1 p2 HX)), .val (.int (m0_305_s0 p0 p1 p2 HX))] [(.int (p2.toInt8.toInt32)), (.ref b47), (.int (m0_280_l8 p0)), (.int (p1 &&& (7 : Int32))), (.int (1 : Int32)), (.ref b2)])) := by
          intro t k
          refine k160 t ?_
          show Steps p.tables e below (T159.setTop (mkF m 326 #[.val (.int p0), .val (.int p1), .val (.int p2), .val (.int (v0_5 p0)), .val (.int (p1 &&& (7 : Int32))), .val (.int (p2.toInt8.toInt32)), .val (.ref b2), .val (.ref b47), .val (.int (m0_280_l8 p0)), .val (.int (v0_5 p0)), .val (.int (v0_288 p0 p1 p2 HX)), .val (.int (m0_305_s0 p0 p1 p2 HX))] [(.int (f3 (0 : Int32) (p1 &&& (7 : Int32)) (m0_280_l8 p0) (p2.toInt8.toInt32) (B0_esc p0 p1 p2 HX) (m0_280_b47 p0)))])) t
          refine XS.ifNo X159.here hx rfl (hb hby at_326) rfl ((if0 _ _).trans (feq hc326_161).1) ?_
          show Steps p.tables e below (T159.setTop (mkF m 329 #[.val (.int p0), .val (.int p1), .val (.int p2), .val (.int (v0_5 p0)), .val (.int (p1 &&& (7 : Int32))), .val (.int (p2.toInt8.toInt32)), .val (.ref b2), .val (.ref b47), .val (.int (m0_280_l8 p0)), .val (.int (v0_5 p0)), .val (.int (v0_288 p0 p1 p2 HX)), .val (.int (m0_305_s0 p0 p1 p2 HX))] [])) t
          refine XS.aload X159.here hx rfl (hb hby at_329) rfl rfl ?_
          show Steps p.tables e below (T159.setTop (mkF m 331 #[.val (.int p0), .val (.int p1), .val (.int p2), .val (.int (v0_5 p0)), .val (.int (p1 &&& (7 : Int32))), .val (.int (p2.toInt8.toInt32)), .val (.ref b2), .val (.ref b47), .val (.int (m0_280_l8 p0)), .val (.int (v0_5 p0)), .val (.int (v0_288 p0 p1 p2 HX)), .val (.int (m0_305_s0 p0 p1 p2 HX))] [(.ref b2)])) t
          refine XS.iconst X159.here hx rfl (hb hby at_331) ?_
          show Steps p.tables e below (T159.setTop (mkF m 332 #[.val (.int p0), .val (.int p1), .val (.int p2), .val (.int (v0_5 p0)), .val (.int (p1 &&& (7 : Int32))), .val (.int (p2.toInt8.toInt32)), .val (.ref b2), .val (.ref b47), .val (.int (m0_280_l8 p0)), .val (.int (v0_5 p0)), .val (.int (v0_288 p0 p1 p2 HX)), .val (.int (m0_305_s0 p0 p1 p2 HX))] [(.int (1 : Int32)), (.ref b2)])) t
          refine XS.iload X159.here hx rfl (hb hby at_332) rfl ?_
          show Steps p.tables e below (T159.setTop (mkF m 334 #[.val (.int p0), .val (.int p1), .val (.int p2), .val (.int (v0_5 p0)), .val (.int (p1 &&& (7 : Int32))), .val (.int (p2.toInt8.toInt32)), .val (.ref b2), .val (.ref b47), .val (.int (m0_280_l8 p0)), .val (.int (v0_5 p0)), .val (.int (v0_288 p0 p1 p2 HX)), .val (.int (m0_305_s0 p0 p1 p2 HX))] [(.int (p1 &&& (7 : Int32))), (.int (1 : Int32)), (.ref b2)])) t
          refine XS.iload X159.here hx rfl (hb hby at_334) rfl ?_
          show Steps p.tables e below (T159.setTop (mkF m 336 #[.val (.int p0), .val (.int p1), .val (.int p2), .val (.int (v0_5 p0)), .val (.int (p1 &&& (7 : Int32))), .val (.int (p2.toInt8.toInt32)), .val (.ref b2), .val (.ref b47), .val (.int (m0_280_l8 p0)), .val (.int (v0_5 p0)), .val (.int (v0_288 p0 p1 p2 HX)), .val (.int (m0_305_s0 p0 p1 p2 HX))] [(.int (m0_280_l8 p0)), (.int (p1 &&& (7 : Int32))), (.int (1 : Int32)), (.ref b2)])) t
          refine XS.aload X159.here hx rfl (hb hby at_336) rfl rfl ?_
          show Steps p.tables e below (T159.setTop (mkF m 338 #[.val (.int p0), .val (.int p1), .val (.int p2), .val (.int (v0_5 p0)), .val (.int (p1 &&& (7 : Int32))), .val (.int (p2.toInt8.toInt32)), .val (.ref b2), .val (.ref b47), .val (.int (m0_280_l8 p0)), .val (.int (v0_5 p0)), .val (.int (v0_288 p0 p1 p2 HX)), .val (.int (m0_305_s0 p0 p1 p2 HX))] [(.ref b47), (.int (m0_280_l8 p0)), (.int (p1 &&& (7 : Int32))), (.int (1 : Int32)), (.ref b2)])) t
          refine XS.iload X159.here hx rfl (hb hby at_338) rfl ?_
          exact k
        obtain ⟨_, _, ⟨T164, L164, kk164, n164⟩, -, X164, ⟨Lc164, hQ164, l164, y164, z164⟩, st164⟩ := Jvm.LawKit.callS X159 hx (y := (⟨"com/example/segmentry/segmentry/io/JsonTextEscapePinLaw", "ok", "([BIII[BB)Z"⟩ : MethodName)) hown (mvT hZ (hw _ (List.mem_of_getElem? (i := 12) rfl))) (mvT hZ (hw _ (List.mem_of_getElem? (i := 13) rfl))) (mvT hZ (hw _ (List.mem_of_getElem? (i := 4) rfl))) (mvT hZ (hw _ (List.mem_of_getElem? (i := 14) rfl))) (by decide) (backOf (W := 0) (rm3 l Z a0 hw [] b2 (1 : Int32) (p1 &&& (7 : Int32)) (m0_280_l8 p0) b47 (p2.toInt8.toInt32) (B0_esc p0 p1 p2 HX) (m0_280_b47 p0) T147.heap n0 (Nat.le_trans Zs50 Kq147.1) gB147' (c50_3.keep Kq147 (ninS (Ne.symm ne_50_b2_b47) nin0)) ⟨by decide, by decide⟩ (own_k6 _ _ _ (own_n6 p0))) hZ (hw _ (List.mem_of_getElem? (i := 14) rfl)) (hw _ (List.mem_of_getElem? (i := 4) rfl)) (by decide) (by decide)) (g := (mkF m 340 #[.val (.int p0), .val (.int p1), .val (.int p2), .val (.int (v0_5 p0)), .val (.int (p1 &&& (7 : Int32))), .val (.int (p2.toInt8.toInt32)), .val (.ref b2), .val (.ref b47), .val (.int (m0_280_l8 p0)), .val (.int (v0_5 p0)), .val (.int (v0_288 p0 p1 p2 HX)), .val (.int (m0_305_s0 p0 p1 p2 HX))] [(.int (p2.toInt8.toInt32)), (.ref b47), (.int (m0_280_l8 p0)), (.int (p1 &&& (7 : Int32))), (.int (1 : Int32)), (.ref b2)])) rfl (by rw [hml]; rfl) (argsL := [(.ref b2), (.int (1 : Int32)), (.int (p1 &&& (7 : Int32))), (.int (m0_280_l8 p0)), (.ref b47), (.int (p2.toInt8.toInt32))]) (rest := []) (lenOf pd_2 rfl) rfl (by show 2 * 0 + _ ≤ _; exact Nat.le_of_eq rfl) (hb hby at_340) (fun _ _ => ⟨rfl, eh159, (by decide : 2 + 0 ≤ _), (by decide : 20 + 0 ≤ _)⟩)
        dsimp only [Pt.U, Pt.locs, Pt.cells, Pt.slots] at X164 l164 y164 z164 st164 hQ164
        subst l164 y164 z164
        obtain ⟨rfl, N164q, eh164⟩ := hQ164
        have N164 := Fr.app N159 N164q
        have k165 : own_Go p e below (s₁.setTop (entryFrame m #[(.int p0), (.int p1), (.int p2)] maxLocals)) (T164.setTop (mkF m 343 #[.val (.int p0), .val (.int p1), .val (.int p2), .val (.int (v0_5 p0)), .val (.int (p1 &&& (7 : Int32))), .val (.int (p2.toInt8.toInt32)), .val (.ref b2), .val (.ref b47), .val (.int (m0_280_l8 p0)), .val (.int (v0_5 p0)), .val (.int (v0_288 p0 p1 p2 HX)), .val (.int (m0_305_s0 p0 p1 p2 HX))] [(.int (f3 (1 : Int32) (p1 &&& (7 : Int32)) (m0_280_l8 p0) (p2.toInt8.toInt32) (B0_esc p0 p1 p2 HX) (m0_280_b47 p0)))])) := fun t k => k163 t (st164 t k)
        by_cases hc343_166 : (f3 (1 : Int32) (p1 &&& (7 : Int32)) (m0_280_l8 p0) (p2.toInt8.toInt32) (B0_esc p0 p1 p2 HX) (m0_280_b47 p0)) = (0 : Int32)
        · have k167 : own_Go p e below (s₁.setTop (entryFrame m #[(.int p0), (.int p1), (.int p2)] maxLocals)) (T164.setTop (mkF m 368 #[.val (.int p0), .val (.int p1), .val (.int p2), .val (.int (v0_5 p0)), .val (.int (p1 &&& (7 : Int32))), .val (.int (p2.toInt8.toInt32)), .val (.ref b2), .val (.ref b47), .val (.int (m0_280_l8 p0)), .val (.int (v0_5 p0)), .val (.int (v0_288 p0 p1 p2 HX)), .val (.int (m0_305_s0 p0 p1 p2 HX))] [(.int (0 : Int32))])) := by
            intro t k
            refine k165 t ?_
            show Steps p.tables e below (T164.setTop (mkF m 343 #[.val (.int p0), .val (.int p1), .val (.int p2), .val (.int (v0_5 p0)), .val (.int (p1 &&& (7 : Int32))), .val (.int (p2.toInt8.toInt32)), .val (.ref b2), .val (.ref b47), .val (.int (m0_280_l8 p0)), .val (.int (v0_5 p0)), .val (.int (v0_288 p0 p1 p2 HX)), .val (.int (m0_305_s0 p0 p1 p2 HX))] [(.int (f3 (1 : Int32) (p1 &&& (7 : Int32)) (m0_280_l8 p0) (p2.toInt8.toInt32) (B0_esc p0 p1 p2 HX) (m0_280_b47 p0)))])) t
            refine XS.ifYes X164.here hx rfl (pc0 := 343) (pc' := 367) rfl (hb hby at_343) rfl ((if0 _ _).trans (teq hc343_166).1) (by decide) (by decide) ?_
            show Steps p.tables e below (T164.setTop (mkF m 367 #[.val (.int p0), .val (.int p1), .val (.int p2), .val (.int (v0_5 p0)), .val (.int (p1 &&& (7 : Int32))), .val (.int (p2.toInt8.toInt32)), .val (.ref b2), .val (.ref b47), .val (.int (m0_280_l8 p0)), .val (.int (v0_5 p0)), .val (.int (v0_288 p0 p1 p2 HX)), .val (.int (m0_305_s0 p0 p1 p2 HX))] [])) t
            refine XS.iconst X164.here hx rfl (hb hby at_367) ?_
            exact k
          exact ⟨_, _, X164, eh164, N164, (by rw [show (m0_368_s0 p0 p1 p2 HX) = (0 : Int32) from (by unfold m0_368_s0; rw [if_neg hc309_156, if_neg hc326_161, if_pos hc343_166])]; exact k167)⟩
        · have k168 : own_Go p e below (s₁.setTop (entryFrame m #[(.int p0), (.int p1), (.int p2)] maxLocals)) (T164.setTop (mkF m 357 #[.val (.int p0), .val (.int p1), .val (.int p2), .val (.int (v0_5 p0)), .val (.int (p1 &&& (7 : Int32))), .val (.int (p2.toInt8.toInt32)), .val (.ref b2), .val (.ref b47), .val (.int (m0_280_l8 p0)), .val (.int (v0_5 p0)), .val (.int (v0_288 p0 p1 p2 HX)), .val (.int (m0_305_s0 p0 p1 p2 HX))] [(.int (p2.toInt8.toInt32)), (.ref b47), (.int (m0_280_l8 p0)), (.int (p1 &&& (7 : Int32))), (.int (2 : Int32)), (.ref b2)])) := by
            intro t k
            refine k165 t ?_
            show Steps p.tables e below (T164.setTop (mkF m 343 #[.val (.int p0), .val (.int p1), .val (.int p2), .val (.int (v0_5 p0)), .val (.int (p1 &&& (7 : Int32))), .val (.int (p2.toInt8.toInt32)), .val (.ref b2), .val (.ref b47), .val (.int (m0_280_l8 p0)), .val (.int (v0_5 p0)), .val (.int (v0_288 p0 p1 p2 HX)), .val (.int (m0_305_s0 p0 p1 p2 HX))] [(.int (f3 (1 : Int32) (p1 &&& (7 : Int32)) (m0_280_l8 p0) (p2.toInt8.toInt32) (B0_esc p0 p1 p2 HX) (m0_280_b47 p0)))])) t
            refine XS.ifNo X164.here hx rfl (hb hby at_343) rfl ((if0 _ _).trans (feq hc343_166).1) ?_
            show Steps p.tables e below (T164.setTop (mkF m 346 #[.val (.int p0), .val (.int p1), .val (.int p2), .val (.int (v0_5 p0)), .val (.int (p1 &&& (7 : Int32))), .val (.int (p2.toInt8.toInt32)), .val (.ref b2), .val (.ref b47), .val (.int (m0_280_l8 p0)), .val (.int (v0_5 p0)), .val (.int (v0_288 p0 p1 p2 HX)), .val (.int (m0_305_s0 p0 p1 p2 HX))] [])) t
            refine XS.aload X164.here hx rfl (hb hby at_346) rfl rfl ?_
            show Steps p.tables e below (T164.setTop (mkF m 348 #[.val (.int p0), .val (.int p1), .val (.int p2), .val (.int (v0_5 p0)), .val (.int (p1 &&& (7 : Int32))), .val (.int (p2.toInt8.toInt32)), .val (.ref b2), .val (.ref b47), .val (.int (m0_280_l8 p0)), .val (.int (v0_5 p0)), .val (.int (v0_288 p0 p1 p2 HX)), .val (.int (m0_305_s0 p0 p1 p2 HX))] [(.ref b2)])) t
            refine XS.iconst X164.here hx rfl (hb hby at_348) ?_
            show Steps p.tables e below (T164.setTop (mkF m 349 #[.val (.int p0), .val (.int p1), .val (.int p2), .val (.int (v0_5 p0)), .val (.int (p1 &&& (7 : Int32))), .val (.int (p2.toInt8.toInt32)), .val (.ref b2), .val (.ref b47), .val (.int (m0_280_l8 p0)), .val (.int (v0_5 p0)), .val (.int (v0_288 p0 p1 p2 HX)), .val (.int (m0_305_s0 p0 p1 p2 HX))] [(.int (2 : Int32)), (.ref b2)])) t
            refine XS.iload X164.here hx rfl (hb hby at_349) rfl ?_
            show Steps p.tables e below (T164.setTop (mkF m 351 #[.val (.int p0), .val (.int p1), .val (.int p2), .val (.int (v0_5 p0)), .val (.int (p1 &&& (7 : Int32))), .val (.int (p2.toInt8.toInt32)), .val (.ref b2), .val (.ref b47), .val (.int (m0_280_l8 p0)), .val (.int (v0_5 p0)), .val (.int (v0_288 p0 p1 p2 HX)), .val (.int (m0_305_s0 p0 p1 p2 HX))] [(.int (p1 &&& (7 : Int32))), (.int (2 : Int32)), (.ref b2)])) t
            refine XS.iload X164.here hx rfl (hb hby at_351) rfl ?_
            show Steps p.tables e below (T164.setTop (mkF m 353 #[.val (.int p0), .val (.int p1), .val (.int p2), .val (.int (v0_5 p0)), .val (.int (p1 &&& (7 : Int32))), .val (.int (p2.toInt8.toInt32)), .val (.ref b2), .val (.ref b47), .val (.int (m0_280_l8 p0)), .val (.int (v0_5 p0)), .val (.int (v0_288 p0 p1 p2 HX)), .val (.int (m0_305_s0 p0 p1 p2 HX))] [(.int (m0_280_l8 p0)), (.int (p1 &&& (7 : Int32))), (.int (2 : Int32)), (.ref b2)])) t
            refine XS.aload X164.here hx rfl (hb hby at_353) rfl rfl ?_
            show Steps p.tables e below (T164.setTop (mkF m 355 #[.val (.int p0), .val (.int p1), .val (.int p2), .val (.int (v0_5 p0)), .val (.int (p1 &&& (7 : Int32))), .val (.int (p2.toInt8.toInt32)), .val (.ref b2), .val (.ref b47), .val (.int (m0_280_l8 p0)), .val (.int (v0_5 p0)), .val (.int (v0_288 p0 p1 p2 HX)), .val (.int (m0_305_s0 p0 p1 p2 HX))] [(.ref b47), (.int (m0_280_l8 p0)), (.int (p1 &&& (7 : Int32))), (.int (2 : Int32)), (.ref b2)])) t
            refine XS.iload X164.here hx rfl (hb hby at_355) rfl ?_
            exact k
          obtain ⟨_, _, ⟨T169, L169, kk169, n169⟩, -, X169, ⟨Lc169, hQ169, l169, y169, z169⟩, st169⟩ := Jvm.LawKit.callS X164 hx (y := (⟨"com/example/segmentry/segmentry/io/JsonTextEscapePinLaw", "ok", "([BIII[BB)Z"⟩ : MethodName)) hown (mvT hZ (hw _ (List.mem_of_getElem? (i := 12) rfl))) (mvT hZ (hw _ (List.mem_of_getElem? (i := 13) rfl))) (mvT hZ (hw _ (List.mem_of_getElem? (i := 4) rfl))) (mvT hZ (hw _ (List.mem_of_getElem? (i := 14) rfl))) (by decide) (backOf (W := 0) (rm3 l Z a0 hw [] b2 (2 : Int32) (p1 &&& (7 : Int32)) (m0_280_l8 p0) b47 (p2.toInt8.toInt32) (B0_esc p0 p1 p2 HX) (m0_280_b47 p0) T147.heap n0 (Nat.le_trans Zs50 Kq147.1) gB147' (c50_3.keep Kq147 (ninS (Ne.symm ne_50_b2_b47) nin0)) ⟨by decide, by decide⟩ (own_k6 _ _ _ (own_n6 p0))) hZ (hw _ (List.mem_of_getElem? (i := 14) rfl)) (hw _ (List.mem_of_getElem? (i := 4) rfl)) (by decide) (by decide)) (g := (mkF m 357 #[.val (.int p0), .val (.int p1), .val (.int p2), .val (.int (v0_5 p0)), .val (.int (p1 &&& (7 : Int32))), .val (.int (p2.toInt8.toInt32)), .val (.ref b2), .val (.ref b47), .val (.int (m0_280_l8 p0)), .val (.int (v0_5 p0)), .val (.int (v0_288 p0 p1 p2 HX)), .val (.int (m0_305_s0 p0 p1 p2 HX))] [(.int (p2.toInt8.toInt32)), (.ref b47), (.int (m0_280_l8 p0)), (.int (p1 &&& (7 : Int32))), (.int (2 : Int32)), (.ref b2)])) rfl (by rw [hml]; rfl) (argsL := [(.ref b2), (.int (2 : Int32)), (.int (p1 &&& (7 : Int32))), (.int (m0_280_l8 p0)), (.ref b47), (.int (p2.toInt8.toInt32))]) (rest := []) (lenOf pd_2 rfl) rfl (by show 2 * 0 + _ ≤ _; exact Nat.le_of_eq rfl) (hb hby at_357) (fun _ _ => ⟨rfl, eh164, (by decide : 2 + 0 ≤ _), (by decide : 20 + 0 ≤ _)⟩)
          dsimp only [Pt.U, Pt.locs, Pt.cells, Pt.slots] at X169 l169 y169 z169 st169 hQ169
          subst l169 y169 z169
          obtain ⟨rfl, N169q, eh169⟩ := hQ169
          have N169 := Fr.app N164 N169q
          have k170 : own_Go p e below (s₁.setTop (entryFrame m #[(.int p0), (.int p1), (.int p2)] maxLocals)) (T169.setTop (mkF m 360 #[.val (.int p0), .val (.int p1), .val (.int p2), .val (.int (v0_5 p0)), .val (.int (p1 &&& (7 : Int32))), .val (.int (p2.toInt8.toInt32)), .val (.ref b2), .val (.ref b47), .val (.int (m0_280_l8 p0)), .val (.int (v0_5 p0)), .val (.int (v0_288 p0 p1 p2 HX)), .val (.int (m0_305_s0 p0 p1 p2 HX))] [(.int (f3 (2 : Int32) (p1 &&& (7 : Int32)) (m0_280_l8 p0) (p2.toInt8.toInt32) (B0_esc p0 p1 p2 HX) (m0_280_b47 p0)))])) := fun t k => k168 t (st169 t k)
          by_cases hc360_171 : (f3 (2 : Int32) (p1 &&& (7 : Int32)) (m0_280_l8 p0) (p2.toInt8.toInt32) (B0_esc p0 p1 p2 HX) (m0_280_b47 p0)) = (0 : Int32)
          · have k172 : own_Go p e below (s₁.setTop (entryFrame m #[(.int p0), (.int p1), (.int p2)] maxLocals)) (T169.setTop (mkF m 368 #[.val (.int p0), .val (.int p1), .val (.int p2), .val (.int (v0_5 p0)), .val (.int (p1 &&& (7 : Int32))), .val (.int (p2.toInt8.toInt32)), .val (.ref b2), .val (.ref b47), .val (.int (m0_280_l8 p0)), .val (.int (v0_5 p0)), .val (.int (v0_288 p0 p1 p2 HX)), .val (.int (m0_305_s0 p0 p1 p2 HX))] [(.int (0 : Int32))])) := by
              intro t k
              refine k170 t ?_
              show Steps p.tables e below (T169.setTop (mkF m 360 #[.val (.int p0), .val (.int p1), .val (.int p2), .val (.int (v0_5 p0)), .val (.int (p1 &&& (7 : Int32))), .val (.int (p2.toInt8.toInt32)), .val (.ref b2), .val (.ref b47), .val (.int (m0_280_l8 p0)), .val (.int (v0_5 p0)), .val (.int (v0_288 p0 p1 p2 HX)), .val (.int (m0_305_s0 p0 p1 p2 HX))] [(.int (f3 (2 : Int32) (p1 &&& (7 : Int32)) (m0_280_l8 p0) (p2.toInt8.toInt32) (B0_esc p0 p1 p2 HX) (m0_280_b47 p0)))])) t
              refine XS.ifYes X169.here hx rfl (pc0 := 360) (pc' := 367) rfl (hb hby at_360) rfl ((if0 _ _).trans (teq hc360_171).1) (by decide) (by decide) ?_
              show Steps p.tables e below (T169.setTop (mkF m 367 #[.val (.int p0), .val (.int p1), .val (.int p2), .val (.int (v0_5 p0)), .val (.int (p1 &&& (7 : Int32))), .val (.int (p2.toInt8.toInt32)), .val (.ref b2), .val (.ref b47), .val (.int (m0_280_l8 p0)), .val (.int (v0_5 p0)), .val (.int (v0_288 p0 p1 p2 HX)), .val (.int (m0_305_s0 p0 p1 p2 HX))] [])) t
              refine XS.iconst X169.here hx rfl (hb hby at_367) ?_
              exact k
            exact ⟨_, _, X169, eh169, N169, (by rw [show (m0_368_s0 p0 p1 p2 HX) = (0 : Int32) from (by unfold m0_368_s0; rw [if_neg hc309_156, if_neg hc326_161, if_neg hc343_166, if_pos hc360_171])]; exact k172)⟩
          · have k173 : own_Go p e below (s₁.setTop (entryFrame m #[(.int p0), (.int p1), (.int p2)] maxLocals)) (T169.setTop (mkF m 368 #[.val (.int p0), .val (.int p1), .val (.int p2), .val (.int (v0_5 p0)), .val (.int (p1 &&& (7 : Int32))), .val (.int (p2.toInt8.toInt32)), .val (.ref b2), .val (.ref b47), .val (.int (m0_280_l8 p0)), .val (.int (v0_5 p0)), .val (.int (v0_288 p0 p1 p2 HX)), .val (.int (m0_305_s0 p0 p1 p2 HX))] [(.int (1 : Int32))])) := by
              intro t k
              refine k170 t ?_
              show Steps p.tables e below (T169.setTop (mkF m 360 #[.val (.int p0), .val (.int p1), .val (.int p2), .val (.int (v0_5 p0)), .val (.int (p1 &&& (7 : Int32))), .val (.int (p2.toInt8.toInt32)), .val (.ref b2), .val (.ref b47), .val (.int (m0_280_l8 p0)), .val (.int (v0_5 p0)), .val (.int (v0_288 p0 p1 p2 HX)), .val (.int (m0_305_s0 p0 p1 p2 HX))] [(.int (f3 (2 : Int32) (p1 &&& (7 : Int32)) (m0_280_l8 p0) (p2.toInt8.toInt32) (B0_esc p0 p1 p2 HX) (m0_280_b47 p0)))])) t
              refine XS.ifNo X169.here hx rfl (hb hby at_360) rfl ((if0 _ _).trans (feq hc360_171).1) ?_
              show Steps p.tables e below (T169.setTop (mkF m 363 #[.val (.int p0), .val (.int p1), .val (.int p2), .val (.int (v0_5 p0)), .val (.int (p1 &&& (7 : Int32))), .val (.int (p2.toInt8.toInt32)), .val (.ref b2), .val (.ref b47), .val (.int (m0_280_l8 p0)), .val (.int (v0_5 p0)), .val (.int (v0_288 p0 p1 p2 HX)), .val (.int (m0_305_s0 p0 p1 p2 HX))] [])) t
              refine XS.iconst X169.here hx rfl (hb hby at_363) ?_
              show Steps p.tables e below (T169.setTop (mkF m 364 #[.val (.int p0), .val (.int p1), .val (.int p2), .val (.int (v0_5 p0)), .val (.int (p1 &&& (7 : Int32))), .val (.int (p2.toInt8.toInt32)), .val (.ref b2), .val (.ref b47), .val (.int (m0_280_l8 p0)), .val (.int (v0_5 p0)), .val (.int (v0_288 p0 p1 p2 HX)), .val (.int (m0_305_s0 p0 p1 p2 HX))] [(.int (1 : Int32))])) t
              refine XS.goto X169.here hx rfl (pc0 := 364) (pc' := 368) rfl (hb hby at_364) (by decide) (by decide) ?_
              exact k
            exact ⟨_, _, X169, eh169, N169, (by rw [show (m0_368_s0 p0 p1 p2 HX) = (1 : Int32) from (by unfold m0_368_s0; rw [if_neg hc309_156, if_neg hc326_161, if_neg hc343_166, if_neg hc360_171])]; exact k173)⟩
  have k174 : own_Go p e below (s₁.setTop (entryFrame m #[(.int p0), (.int p1), (.int p2)] maxLocals)) (T155.setTop (mkF m 372 #[.val (.int p0), .val (.int p1), .val (.int p2), .val (.int (v0_5 p0)), .val (.int (p1 &&& (7 : Int32))), .val (.int (p2.toInt8.toInt32)), .val (.ref b2), .val (.ref b47), .val (.int (m0_280_l8 p0)), .val (.int (v0_5 p0)), .val (.int (v0_288 p0 p1 p2 HX)), .val (.int (m0_368_s0 p0 p1 p2 HX))] [(.int (m0_368_s0 p0 p1 p2 HX))])) := by
    intro t k
    refine k155 t ?_
    show Steps p.tables e below (T155.setTop (mkF m 368 #[.val (.int p0), .val (.int p1), .val (.int p2), .val (.int (v0_5 p0)), .val (.int (p1 &&& (7 : Int32))), .val (.int (p2.toInt8.toInt32)), .val (.ref b2), .val (.ref b47), .val (.int (m0_280_l8 p0)), .val (.int (v0_5 p0)), .val (.int (v0_288 p0 p1 p2 HX)), .val (.int (m0_305_s0 p0 p1 p2 HX))] [(.int (m0_368_s0 p0 p1 p2 HX))])) t
    refine XS.istore X155.here hx rfl (hb hby at_368) rfl (l' := #[.val (.int p0), .val (.int p1), .val (.int p2), .val (.int (v0_5 p0)), .val (.int (p1 &&& (7 : Int32))), .val (.int (p2.toInt8.toInt32)), .val (.ref b2), .val (.ref b47), .val (.int (m0_280_l8 p0)), .val (.int (v0_5 p0)), .val (.int (v0_288 p0 p1 p2 HX)), .val (.int (m0_368_s0 p0 p1 p2 HX))]) rfl ?_
    show Steps p.tables e below (T155.setTop (mkF m 370 #[.val (.int p0), .val (.int p1), .val (.int p2), .val (.int (v0_5 p0)), .val (.int (p1 &&& (7 : Int32))), .val (.int (p2.toInt8.toInt32)), .val (.ref b2), .val (.ref b47), .val (.int (m0_280_l8 p0)), .val (.int (v0_5 p0)), .val (.int (v0_288 p0 p1 p2 HX)), .val (.int (m0_368_s0 p0 p1 p2 HX))] [])) t
    refine XS.iload X155.here hx rfl (hb hby at_370) rfl ?_
    exact k
  obtain ⟨T175, L175, X175, e175, N175, k175⟩ : ∃ (T175 : State) (L175 : List Loc), Stand p l e room_1 s m #[(.int p0), (.int p1), (.int p2)] below meth c T175 L175 2 20 ∧ T175.heap = T147.heap ∧ Fr n0 L175 ∧ own_Go p e below (s₁.setTop (entryFrame m #[(.int p0), (.int p1), (.int p2)] maxLocals)) (T175.setTop (mkF m 431 #[.val (.int p0), .val (.int p1), .val (.int p2), .val (.int (v0_5 p0)), .val (.int (p1 &&& (7 : Int32))), .val (.int (p2.toInt8.toInt32)), .val (.ref b2), .val (.ref b47), .val (.int (m0_280_l8 p0)), .val (.int (v0_5 p0)), .val (.int (v0_288 p0 p1 p2 HX)), .val (.int (m0_368_s0 p0 p1 p2 HX))] [(.int (m0_431_s0 p0 p1 p2 HX))])) := by
    by_cases hc372_176 : (m0_368_s0 p0 p1 p2 HX) = (0 : Int32)
    · have k177 : own_Go p e below (s₁.setTop (entryFrame m #[(.int p0), (.int p1), (.int p2)] maxLocals)) (T155.setTop (mkF m 431 #[.val (.int p0), .val (.int p1), .val (.int p2), .val (.int (v0_5 p0)), .val (.int (p1 &&& (7 : Int32))), .val (.int (p2.toInt8.toInt32)), .val (.ref b2), .val (.ref b47), .val (.int (m0_280_l8 p0)), .val (.int (v0_5 p0)), .val (.int (v0_288 p0 p1 p2 HX)), .val (.int (m0_368_s0 p0 p1 p2 HX))] [(.int (0 : Int32))])) := by
        intro t k
        refine k174 t ?_
        show Steps p.tables e below (T155.setTop (mkF m 372 #[.val (.int p0), .val (.int p1), .val (.int p2), .val (.int (v0_5 p0)), .val (.int (p1 &&& (7 : Int32))), .val (.int (p2.toInt8.toInt32)), .val (.ref b2), .val (.ref b47), .val (.int (m0_280_l8 p0)), .val (.int (v0_5 p0)), .val (.int (v0_288 p0 p1 p2 HX)), .val (.int (m0_368_s0 p0 p1 p2 HX))] [(.int (m0_368_s0 p0 p1 p2 HX))])) t
        refine XS.ifYes X155.here hx rfl (pc0 := 372) (pc' := 430) rfl (hb hby at_372) rfl ((if0 _ _).trans (teq hc372_176).1) (by decide) (by decide) ?_
        show Steps p.tables e below (T155.setTop (mkF m 430 #[.val (.int p0), .val (.int p1), .val (.int p2), .val (.int (v0_5 p0)), .val (.int (p1 &&& (7 : Int32))), .val (.int (p2.toInt8.toInt32)), .val (.ref b2), .val (.ref b47), .val (.int (m0_280_l8 p0)), .val (.int (v0_5 p0)), .val (.int (v0_288 p0 p1 p2 HX)), .val (.int (m0_368_s0 p0 p1 p2 HX))] [])) t
        refine XS.iconst X155.here hx rfl (hb hby at_430) ?_
        exact k
      exact ⟨_, _, X155, e155, N155, (by rw [show (m0_431_s0 p0 p1 p2 HX) = (0 : Int32) from (by unfold m0_431_s0; rw [if_pos hc372_176])]; exact k177)⟩
    · have k178 : own_Go p e below (s₁.setTop (entryFrame m #[(.int p0), (.int p1), (.int p2)] maxLocals)) (T155.setTop (mkF m 386 #[.val (.int p0), .val (.int p1), .val (.int p2), .val (.int (v0_5 p0)), .val (.int (p1 &&& (7 : Int32))), .val (.int (p2.toInt8.toInt32)), .val (.ref b2), .val (.ref b47), .val (.int (m0_280_l8 p0)), .val (.int (v0_5 p0)), .val (.int (v0_288 p0 p1 p2 HX)), .val (.int (m0_368_s0 p0 p1 p2 HX))] [(.int (p2.toInt8.toInt32)), (.ref b47), (.int (m0_280_l8 p0)), (.int (p1 &&& (7 : Int32))), (.int (3 : Int32)), (.ref b2)])) := by
        intro t k
        refine k174 t ?_
        show Steps p.tables e below (T155.setTop (mkF m 372 #[.val (.int p0), .val (.int p1), .val (.int p2), .val (.int (v0_5 p0)), .val (.int (p1 &&& (7 : Int32))), .val (.int (p2.toInt8.toInt32)), .val (.ref b2), .val (.ref b47), .val (.int (m0_280_l8 p0)), .val (.int (v0_5 p0)), .val (.int (v0_288 p0 p1 p2 HX)), .val (.int (m0_368_s0 p0 p1 p2 HX))] [(.int (m0_368_s0 p0 p1 p2 HX))])) t
        refine XS.ifNo X155.here hx rfl (hb hby at_372) rfl ((if0 _ _).trans (feq hc372_176).1) ?_
        show Steps p.tables e below (T155.setTop (mkF m 375 #[.val (.int p0), .val (.int p1), .val (.int p2), .val (.int (v0_5 p0)), .val (.int (p1 &&& (7 : Int32))), .val (.int (p2.toInt8.toInt32)), .val (.ref b2), .val (.ref b47), .val (.int (m0_280_l8 p0)), .val (.int (v0_5 p0)), .val (.int (v0_288 p0 p1 p2 HX)), .val (.int (m0_368_s0 p0 p1 p2 HX))] [])) t
        refine XS.aload X155.here hx rfl (hb hby at_375) rfl rfl ?_
        show Steps p.tables e below (T155.setTop (mkF m 377 #[.val (.int p0), .val (.int p1), .val (.int p2), .val (.int (v0_5 p0)), .val (.int (p1 &&& (7 : Int32))), .val (.int (p2.toInt8.toInt32)), .val (.ref b2), .val (.ref b47), .val (.int (m0_280_l8 p0)), .val (.int (v0_5 p0)), .val (.int (v0_288 p0 p1 p2 HX)), .val (.int (m0_368_s0 p0 p1 p2 HX))] [(.ref b2)])) t
        refine XS.iconst X155.here hx rfl (hb hby at_377) ?_
        show Steps p.tables e below (T155.setTop (mkF m 378 #[.val (.int p0), .val (.int p1), .val (.int p2), .val (.int (v0_5 p0)), .val (.int (p1 &&& (7 : Int32))), .val (.int (p2.toInt8.toInt32)), .val (.ref b2), .val (.ref b47), .val (.int (m0_280_l8 p0)), .val (.int (v0_5 p0)), .val (.int (v0_288 p0 p1 p2 HX)), .val (.int (m0_368_s0 p0 p1 p2 HX))] [(.int (3 : Int32)), (.ref b2)])) t
        refine XS.iload X155.here hx rfl (hb hby at_378) rfl ?_
        show Steps p.tables e below (T155.setTop (mkF m 380 #[.val (.int p0), .val (.int p1), .val (.int p2), .val (.int (v0_5 p0)), .val (.int (p1 &&& (7 : Int32))), .val (.int (p2.toInt8.toInt32)), .val (.ref b2), .val (.ref b47), .val (.int (m0_280_l8 p0)), .val (.int (v0_5 p0)), .val (.int (v0_288 p0 p1 p2 HX)), .val (.int (m0_368_s0 p0 p1 p2 HX))] [(.int (p1 &&& (7 : Int32))), (.int (3 : Int32)), (.ref b2)])) t
        refine XS.iload X155.here hx rfl (hb hby at_380) rfl ?_
        show Steps p.tables e below (T155.setTop (mkF m 382 #[.val (.int p0), .val (.int p1), .val (.int p2), .val (.int (v0_5 p0)), .val (.int (p1 &&& (7 : Int32))), .val (.int (p2.toInt8.toInt32)), .val (.ref b2), .val (.ref b47), .val (.int (m0_280_l8 p0)), .val (.int (v0_5 p0)), .val (.int (v0_288 p0 p1 p2 HX)), .val (.int (m0_368_s0 p0 p1 p2 HX))] [(.int (m0_280_l8 p0)), (.int (p1 &&& (7 : Int32))), (.int (3 : Int32)), (.ref b2)])) t
        refine XS.aload X155.here hx rfl (hb hby at_382) rfl rfl ?_
        show Steps p.tables e below (T155.setTop (mkF m 384 #[.val (.int p0), .val (.int p1), .val (.int p2), .val (.int (v0_5 p0)), .val (.int (p1 &&& (7 : Int32))), .val (.int (p2.toInt8.toInt32)), .val (.ref b2), .val (.ref b47), .val (.int (m0_280_l8 p0)), .val (.int (v0_5 p0)), .val (.int (v0_288 p0 p1 p2 HX)), .val (.int (m0_368_s0 p0 p1 p2 HX))] [(.ref b47), (.int (m0_280_l8 p0)), (.int (p1 &&& (7 : Int32))), (.int (3 : Int32)), (.ref b2)])) t
        refine XS.iload X155.here hx rfl (hb hby at_384) rfl ?_
        exact k
      obtain ⟨_, _, ⟨T179, L179, kk179, n179⟩, -, X179, ⟨Lc179, hQ179, l179, y179, z179⟩, st179⟩ := Jvm.LawKit.callS X155 hx (y := (⟨"com/example/segmentry/segmentry/io/JsonTextEscapePinLaw", "ok", "([BIII[BB)Z"⟩ : MethodName)) hown (mvT hZ (hw _ (List.mem_of_getElem? (i := 12) rfl))) (mvT hZ (hw _ (List.mem_of_getElem? (i := 13) rfl))) (mvT hZ (hw _ (List.mem_of_getElem? (i := 4) rfl))) (mvT hZ (hw _ (List.mem_of_getElem? (i := 14) rfl))) (by decide) (backOf (W := 0) (rm3 l Z a0 hw [] b2 (3 : Int32) (p1 &&& (7 : Int32)) (m0_280_l8 p0) b47 (p2.toInt8.toInt32) (B0_esc p0 p1 p2 HX) (m0_280_b47 p0) T147.heap n0 (Nat.le_trans Zs50 Kq147.1) gB147' (c50_3.keep Kq147 (ninS (Ne.symm ne_50_b2_b47) nin0)) ⟨by decide, by decide⟩ (own_k6 _ _ _ (own_n6 p0))) hZ (hw _ (List.mem_of_getElem? (i := 14) rfl)) (hw _ (List.mem_of_getElem? (i := 4) rfl)) (by decide) (by decide)) (g := (mkF m 386 #[.val (.int p0), .val (.int p1), .val (.int p2), .val (.int (v0_5 p0)), .val (.int (p1 &&& (7 : Int32))), .val (.int (p2.toInt8.toInt32)), .val (.ref b2), .val (.ref b47), .val (.int (m0_280_l8 p0)), .val (.int (v0_5 p0)), .val (.int (v0_288 p0 p1 p2 HX)), .val (.int (m0_368_s0 p0 p1 p2 HX))] [(.int (p2.toInt8.toInt32)), (.ref b47), (.int (m0_280_l8 p0)), (.int (p1 &&& (7 : Int32))), (.int (3 : Int32)), (.ref b2)])) rfl (by rw [hml]; rfl) (argsL := [(.ref b2), (.int (3 : Int32)), (.int (p1 &&& (7 : Int32))), (.int (m0_280_l8 p0)), (.ref b47), (.int (p2.toInt8.toInt32))]) (rest := []) (lenOf pd_2 rfl) rfl (by show 2 * 0 + _ ≤ _; exact Nat.le_of_eq rfl) (hb hby at_386) (fun _ _ => ⟨rfl, e155, (by decide : 2 + 0 ≤ _), (by decide : 20 + 0 ≤ _)⟩)
      dsimp only [Pt.U, Pt.locs, Pt.cells, Pt.slots] at X179 l179 y179 z179 st179 hQ179
      subst l179 y179 z179
      obtain ⟨rfl, N179q, eh179⟩ := hQ179
      have N179 := Fr.app N155 N179q
      have k180 : own_Go p e below (s₁.setTop (entryFrame m #[(.int p0), (.int p1), (.int p2)] maxLocals)) (T179.setTop (mkF m 389 #[.val (.int p0), .val (.int p1), .val (.int p2), .val (.int (v0_5 p0)), .val (.int (p1 &&& (7 : Int32))), .val (.int (p2.toInt8.toInt32)), .val (.ref b2), .val (.ref b47), .val (.int (m0_280_l8 p0)), .val (.int (v0_5 p0)), .val (.int (v0_288 p0 p1 p2 HX)), .val (.int (m0_368_s0 p0 p1 p2 HX))] [(.int (f3 (3 : Int32) (p1 &&& (7 : Int32)) (m0_280_l8 p0) (p2.toInt8.toInt32) (B0_esc p0 p1 p2 HX) (m0_280_b47 p0)))])) := fun t k => k178 t (st179 t k)
      by_cases hc389_181 : (f3 (3 : Int32) (p1 &&& (7 : Int32)) (m0_280_l8 p0) (p2.toInt8.toInt32) (B0_esc p0 p1 p2 HX) (m0_280_b47 p0)) = (0 : Int32)
      · have k182 : own_Go p e below (s₁.setTop (entryFrame m #[(.int p0), (.int p1), (.int p2)] maxLocals)) (T179.setTop (mkF m 431 #[.val (.int p0), .val (.int p1), .val (.int p2), .val (.int (v0_5 p0)), .val (.int (p1 &&& (7 : Int32))), .val (.int (p2.toInt8.toInt32)), .val (.ref b2), .val (.ref b47), .val (.int (m0_280_l8 p0)), .val (.int (v0_5 p0)), .val (.int (v0_288 p0 p1 p2 HX)), .val (.int (m0_368_s0 p0 p1 p2 HX))] [(.int (0 : Int32))])) := by
          intro t k
          refine k180 t ?_
          show Steps p.tables e below (T179.setTop (mkF m 389 #[.val (.int p0), .val (.int p1), .val (.int p2), .val (.int (v0_5 p0)), .val (.int (p1 &&& (7 : Int32))), .val (.int (p2.toInt8.toInt32)), .val (.ref b2), .val (.ref b47), .val (.int (m0_280_l8 p0)), .val (.int (v0_5 p0)), .val (.int (v0_288 p0 p1 p2 HX)), .val (.int (m0_368_s0 p0 p1 p2 HX))] [(.int (f3 (3 : Int32) (p1 &&& (7 : Int32)) (m0_280_l8 p0) (p2.toInt8.toInt32) (B0_esc p0 p1 p2 HX) (m0_280_b47 p0)))])) t
          refine XS.ifYes X179.here hx rfl (pc0 := 389) (pc' := 430) rfl (hb hby at_389) rfl ((if0 _ _).trans (teq hc389_181).1) (by decide) (by decide) ?_
          show Steps p.tables e below (T179.setTop (mkF m 430 #[.val (.int p0), .val (.int p1), .val (.int p2), .val (.int (v0_5 p0)), .val (.int (p1 &&& (7 : Int32))), .val (.int (p2.toInt8.toInt32)), .val (.ref b2), .val (.ref b47), .val (.int (m0_280_l8 p0)), .val (.int (v0_5 p0)), .val (.int (v0_288 p0 p1 p2 HX)), .val (.int (m0_368_s0 p0 p1 p2 HX))] [])) t
          refine XS.iconst X179.here hx rfl (hb hby at_430) ?_
          exact k
        exact ⟨_, _, X179, eh179, N179, (by rw [show (m0_431_s0 p0 p1 p2 HX) = (0 : Int32) from (by unfold m0_431_s0; rw [if_neg hc372_176, if_pos hc389_181])]; exact k182)⟩
      · have k183 : own_Go p e below (s₁.setTop (entryFrame m #[(.int p0), (.int p1), (.int p2)] maxLocals)) (T179.setTop (mkF m 403 #[.val (.int p0), .val (.int p1), .val (.int p2), .val (.int (v0_5 p0)), .val (.int (p1 &&& (7 : Int32))), .val (.int (p2.toInt8.toInt32)), .val (.ref b2), .val (.ref b47), .val (.int (m0_280_l8 p0)), .val (.int (v0_5 p0)), .val (.int (v0_288 p0 p1 p2 HX)), .val (.int (m0_368_s0 p0 p1 p2 HX))] [(.int (p2.toInt8.toInt32)), (.ref b47), (.int (m0_280_l8 p0)), (.int (p1 &&& (7 : Int32))), (.int (4 : Int32)), (.ref b2)])) := by
          intro t k
          refine k180 t ?_
          show Steps p.tables e below (T179.setTop (mkF m 389 #[.val (.int p0), .val (.int p1), .val (.int p2), .val (.int (v0_5 p0)), .val (.int (p1 &&& (7 : Int32))), .val (.int (p2.toInt8.toInt32)), .val (.ref b2), .val (.ref b47), .val (.int (m0_280_l8 p0)), .val (.int (v0_5 p0)), .val (.int (v0_288 p0 p1 p2 HX)), .val (.int (m0_368_s0 p0 p1 p2 HX))] [(.int (f3 (3 : Int32) (p1 &&& (7 : Int32)) (m0_280_l8 p0) (p2.toInt8.toInt32) (B0_esc p0 p1 p2 HX) (m0_280_b47 p0)))])) t
          refine XS.ifNo X179.here hx rfl (hb hby at_389) rfl ((if0 _ _).trans (feq hc389_181).1) ?_
          show Steps p.tables e below (T179.setTop (mkF m 392 #[.val (.int p0), .val (.int p1), .val (.int p2), .val (.int (v0_5 p0)), .val (.int (p1 &&& (7 : Int32))), .val (.int (p2.toInt8.toInt32)), .val (.ref b2), .val (.ref b47), .val (.int (m0_280_l8 p0)), .val (.int (v0_5 p0)), .val (.int (v0_288 p0 p1 p2 HX)), .val (.int (m0_368_s0 p0 p1 p2 HX))] [])) t
          refine XS.aload X179.here hx rfl (hb hby at_392) rfl rfl ?_
          show Steps p.tables e below (T179.setTop (mkF m 394 #[.val (.int p0), .val (.int p1), .val (.int p2), .val (.int (v0_5 p0)), .val (.int (p1 &&& (7 : Int32))), .val (.int (p2.toInt8.toInt32)), .val (.ref b2), .val (.ref b47), .val (.int (m0_280_l8 p0)), .val (.int (v0_5 p0)), .val (.int (v0_288 p0 p1 p2 HX)), .val (.int (m0_368_s0 p0 p1 p2 HX))] [(.ref b2)])) t
          refine XS.iconst X179.here hx rfl (hb hby at_394) ?_
          show Steps p.tables e below (T179.setTop (mkF m 395 #[.val (.int p0), .val (.int p1), .val (.int p2), .val (.int (v0_5 p0)), .val (.int (p1 &&& (7 : Int32))), .val (.int (p2.toInt8.toInt32)), .val (.ref b2), .val (.ref b47), .val (.int (m0_280_l8 p0)), .val (.int (v0_5 p0)), .val (.int (v0_288 p0 p1 p2 HX)), .val (.int (m0_368_s0 p0 p1 p2 HX))] [(.int (4 : Int32)), (.ref b2)])) t
          refine XS.iload X179.here hx rfl (hb hby at_395) rfl ?_
          show Steps p.tables e below (T179.setTop (mkF m 397 #[.val (.int p0), .val (.int p1), .val (.int p2), .val (.int (v0_5 p0)), .val (.int (p1 &&& (7 : Int32))), .val (.int (p2.toInt8.toInt32)), .val (.ref b2), .val (.ref b47), .val (.int (m0_280_l8 p0)), .val (.int (v0_5 p0)), .val (.int (v0_288 p0 p1 p2 HX)), .val (.int (m0_368_s0 p0 p1 p2 HX))] [(.int (p1 &&& (7 : Int32))), (.int (4 : Int32)), (.ref b2)])) t
          refine XS.iload X179.here hx rfl (hb hby at_397) rfl ?_
          show Steps p.tables e below (T179.setTop (mkF m 399 #[.val (.int p0), .val (.int p1), .val (.int p2), .val (.int (v0_5 p0)), .val (.int (p1 &&& (7 : Int32))), .val (.int (p2.toInt8.toInt32)), .val (.ref b2), .val (.ref b47), .val (.int (m0_280_l8 p0)), .val (.int (v0_5 p0)), .val (.int (v0_288 p0 p1 p2 HX)), .val (.int (m0_368_s0 p0 p1 p2 HX))] [(.int (m0_280_l8 p0)), (.int (p1 &&& (7 : Int32))), (.int (4 : Int32)), (.ref b2)])) t
          refine XS.aload X179.here hx rfl (hb hby at_399) rfl rfl ?_
          show Steps p.tables e below (T179.setTop (mkF m 401 #[.val (.int p0), .val (.int p1), .val (.int p2), .val (.int (v0_5 p0)), .val (.int (p1 &&& (7 : Int32))), .val (.int (p2.toInt8.toInt32)), .val (.ref b2), .val (.ref b47), .val (.int (m0_280_l8 p0)), .val (.int (v0_5 p0)), .val (.int (v0_288 p0 p1 p2 HX)), .val (.int (m0_368_s0 p0 p1 p2 HX))] [(.ref b47), (.int (m0_280_l8 p0)), (.int (p1 &&& (7 : Int32))), (.int (4 : Int32)), (.ref b2)])) t
          refine XS.iload X179.here hx rfl (hb hby at_401) rfl ?_
          exact k
        obtain ⟨_, _, ⟨T184, L184, kk184, n184⟩, -, X184, ⟨Lc184, hQ184, l184, y184, z184⟩, st184⟩ := Jvm.LawKit.callS X179 hx (y := (⟨"com/example/segmentry/segmentry/io/JsonTextEscapePinLaw", "ok", "([BIII[BB)Z"⟩ : MethodName)) hown (mvT hZ (hw _ (List.mem_of_getElem? (i := 12) rfl))) (mvT hZ (hw _ (List.mem_of_getElem? (i := 13) rfl))) (mvT hZ (hw _ (List.mem_of_getElem? (i := 4) rfl))) (mvT hZ (hw _ (List.mem_of_getElem? (i := 14) rfl))) (by decide) (backOf (W := 0) (rm3 l Z a0 hw [] b2 (4 : Int32) (p1 &&& (7 : Int32)) (m0_280_l8 p0) b47 (p2.toInt8.toInt32) (B0_esc p0 p1 p2 HX) (m0_280_b47 p0) T147.heap n0 (Nat.le_trans Zs50 Kq147.1) gB147' (c50_3.keep Kq147 (ninS (Ne.symm ne_50_b2_b47) nin0)) ⟨by decide, by decide⟩ (own_k6 _ _ _ (own_n6 p0))) hZ (hw _ (List.mem_of_getElem? (i := 14) rfl)) (hw _ (List.mem_of_getElem? (i := 4) rfl)) (by decide) (by decide)) (g := (mkF m 403 #[.val (.int p0), .val (.int p1), .val (.int p2), .val (.int (v0_5 p0)), .val (.int (p1 &&& (7 : Int32))), .val (.int (p2.toInt8.toInt32)), .val (.ref b2), .val (.ref b47), .val (.int (m0_280_l8 p0)), .val (.int (v0_5 p0)), .val (.int (v0_288 p0 p1 p2 HX)), .val (.int (m0_368_s0 p0 p1 p2 HX))] [(.int (p2.toInt8.toInt32)), (.ref b47), (.int (m0_280_l8 p0)), (.int (p1 &&& (7 : Int32))), (.int (4 : Int32)), (.ref b2)])) rfl (by rw [hml]; rfl) (argsL := [(.ref b2), (.int (4 : Int32)), (.int (p1 &&& (7 : Int32))), (.int (m0_280_l8 p0)), (.ref b47), (.int (p2.toInt8.toInt32))]) (rest := []) (lenOf pd_2 rfl) rfl (by show 2 * 0 + _ ≤ _; exact Nat.le_of_eq rfl) (hb hby at_403) (fun _ _ => ⟨rfl, eh179, (by decide : 2 + 0 ≤ _), (by decide : 20 + 0 ≤ _)⟩)
        dsimp only [Pt.U, Pt.locs, Pt.cells, Pt.slots] at X184 l184 y184 z184 st184 hQ184
        subst l184 y184 z184
        obtain ⟨rfl, N184q, eh184⟩ := hQ184
        have N184 := Fr.app N179 N184q
        have k185 : own_Go p e below (s₁.setTop (entryFrame m #[(.int p0), (.int p1), (.int p2)] maxLocals)) (T184.setTop (mkF m 406 #[.val (.int p0), .val (.int p1), .val (.int p2), .val (.int (v0_5 p0)), .val (.int (p1 &&& (7 : Int32))), .val (.int (p2.toInt8.toInt32)), .val (.ref b2), .val (.ref b47), .val (.int (m0_280_l8 p0)), .val (.int (v0_5 p0)), .val (.int (v0_288 p0 p1 p2 HX)), .val (.int (m0_368_s0 p0 p1 p2 HX))] [(.int (f3 (4 : Int32) (p1 &&& (7 : Int32)) (m0_280_l8 p0) (p2.toInt8.toInt32) (B0_esc p0 p1 p2 HX) (m0_280_b47 p0)))])) := fun t k => k183 t (st184 t k)
        by_cases hc406_186 : (f3 (4 : Int32) (p1 &&& (7 : Int32)) (m0_280_l8 p0) (p2.toInt8.toInt32) (B0_esc p0 p1 p2 HX) (m0_280_b47 p0)) = (0 : Int32)
        · have k187 : own_Go p e below (s₁.setTop (entryFrame m #[(.int p0), (.int p1), (.int p2)] maxLocals)) (T184.setTop (mkF m 431 #[.val (.int p0), .val (.int p1), .val (.int p2), .val (.int (v0_5 p0)), .val (.int (p1 &&& (7 : Int32))), .val (.int (p2.toInt8.toInt32)), .val (.ref b2), .val (.ref b47), .val (.int (m0_280_l8 p0)), .val (.int (v0_5 p0)), .val (.int (v0_288 p0 p1 p2 HX)), .val (.int (m0_368_s0 p0 p1 p2 HX))] [(.int (0 : Int32))])) := by
            intro t k
            refine k185 t ?_
            show Steps p.tables e below (T184.setTop (mkF m 406 #[.val (.int p0), .val (.int p1), .val (.int p2), .val (.int (v0_5 p0)), .val (.int (p1 &&& (7 : Int32))), .val (.int (p2.toInt8.toInt32)), .val (.ref b2), .val (.ref b47), .val (.int (m0_280_l8 p0)), .val (.int (v0_5 p0)), .val (.int (v0_288 p0 p1 p2 HX)), .val (.int (m0_368_s0 p0 p1 p2 HX))] [(.int (f3 (4 : Int32) (p1 &&& (7 : Int32)) (m0_280_l8 p0) (p2.toInt8.toInt32) (B0_esc p0 p1 p2 HX) (m0_280_b47 p0)))])) t
            refine XS.ifYes X184.here hx rfl (pc0 := 406) (pc' := 430) rfl (hb hby at_406) rfl ((if0 _ _).trans (teq hc406_186).1) (by decide) (by decide) ?_
            show Steps p.tables e below (T184.setTop (mkF m 430 #[.val (.int p0), .val (.int p1), .val (.int p2), .val (.int (v0_5 p0)), .val (.int (p1 &&& (7 : Int32))), .val (.int (p2.toInt8.toInt32)), .val (.ref b2), .val (.ref b47), .val (.int (m0_280_l8 p0)), .val (.int (v0_5 p0)), .val (.int (v0_288 p0 p1 p2 HX)), .val (.int (m0_368_s0 p0 p1 p2 HX))] [])) t
            refine XS.iconst X184.here hx rfl (hb hby at_430) ?_
            exact k
          exact ⟨_, _, X184, eh184, N184, (by rw [show (m0_431_s0 p0 p1 p2 HX) = (0 : Int32) from (by unfold m0_431_s0; rw [if_neg hc372_176, if_neg hc389_181, if_pos hc406_186])]; exact k187)⟩
        · have k188 : own_Go p e below (s₁.setTop (entryFrame m #[(.int p0), (.int p1), (.int p2)] maxLocals)) (T184.setTop (mkF m 420 #[.val (.int p0), .val (.int p1), .val (.int p2), .val (.int (v0_5 p0)), .val (.int (p1 &&& (7 : Int32))), .val (.int (p2.toInt8.toInt32)), .val (.ref b2), .val (.ref b47), .val (.int (m0_280_l8 p0)), .val (.int (v0_5 p0)), .val (.int (v0_288 p0 p1 p2 HX)), .val (.int (m0_368_s0 p0 p1 p2 HX))] [(.int (p2.toInt8.toInt32)), (.ref b47), (.int (m0_280_l8 p0)), (.int (p1 &&& (7 : Int32))), (.int (5 : Int32)), (.ref b2)])) := by
            intro t k
            refine k185 t ?_
            show Steps p.tables e below (T184.setTop (mkF m 406 #[.val (.int p0), .val (.int p1), .val (.int p2), .val (.int (v0_5 p0)), .val (.int (p1 &&& (7 : Int32))), .val (.int (p2.toInt8.toInt32)), .val (.ref b2), .val (.ref b47), .val (.int (m0_280_l8 p0)), .val (.int (v0_5 p0)), .val (.int (v0_288 p0 p1 p2 HX)), .val (.int (m0_368_s0 p0 p1 p2 HX))] [(.int (f3 (4 : Int32) (p1 &&& (7 : Int32)) (m0_280_l8 p0) (p2.toInt8.toInt32) (B0_esc p0 p1 p2 HX) (m0_280_b47 p0)))])) t
            refine XS.ifNo X184.here hx rfl (hb hby at_406) rfl ((if0 _ _).trans (feq hc406_186).1) ?_
            show Steps p.tables e below (T184.setTop (mkF m 409 #[.val (.int p0), .val (.int p1), .val (.int p2), .val (.int (v0_5 p0)), .val (.int (p1 &&& (7 : Int32))), .val (.int (p2.toInt8.toInt32)), .val (.ref b2), .val (.ref b47), .val (.int (m0_280_l8 p0)), .val (.int (v0_5 p0)), .val (.int (v0_288 p0 p1 p2 HX)), .val (.int (m0_368_s0 p0 p1 p2 HX))] [])) t
            refine XS.aload X184.here hx rfl (hb hby at_409) rfl rfl ?_
            show Steps p.tables e below (T184.setTop (mkF m 411 #[.val (.int p0), .val (.int p1), .val (.int p2), .val (.int (v0_5 p0)), .val (.int (p1 &&& (7 : Int32))), .val (.int (p2.toInt8.toInt32)), .val (.ref b2), .val (.ref b47), .val (.int (m0_280_l8 p0)), .val (.int (v0_5 p0)), .val (.int (v0_288 p0 p1 p2 HX)), .val (.int (m0_368_s0 p0 p1 p2 HX))] [(.ref b2)])) t
            refine XS.iconst X184.here hx rfl (hb hby at_411) ?_
            show Steps p.tables e below (T184.setTop (mkF m 412 #[.val (.int p0), .val (.int p1), .val (.int p2), .val (.int (v0_5 p0)), .val (.int (p1 &&& (7 : Int32))), .val (.int (p2.toInt8.toInt32)), .val (.ref b2), .val (.ref b47), .val (.int (m0_280_l8 p0)), .val (.int (v0_5 p0)), .val (.int (v0_288 p0 p1 p2 HX)), .val (.int (m0_368_s0 p0 p1 p2 HX))] [(.int (5 : Int32)), (.ref b2)])) t
            refine XS.iload X184.here hx rfl (hb hby at_412) rfl ?_
            show Steps p.tables e below (T184.setTop (mkF m 414 #[.val (.int p0), .val (.int p1), .val (.int p2), .val (.int (v0_5 p0)), .val (.int (p1 &&& (7 : Int32))), .val (.int (p2.toInt8.toInt32)), .val (.ref b2), .val (.ref b47), .val (.int (m0_280_l8 p0)), .val (.int (v0_5 p0)), .val (.int (v0_288 p0 p1 p2 HX)), .val (.int (m0_368_s0 p0 p1 p2 HX))] [(.int (p1 &&& (7 : Int32))), (.int (5 : Int32)), (.ref b2)])) t
            refine XS.iload X184.here hx rfl (hb hby at_414) rfl ?_
            show Steps p.tables e below (T184.setTop (mkF m 416 #[.val (.int p0), .val (.int p1), .val (.int p2), .val (.int (v0_5 p0)), .val (.int (p1 &&& (7 : Int32))), .val (.int (p2.toInt8.toInt32)), .val (.ref b2), .val (.ref b47), .val (.int (m0_280_l8 p0)), .val (.int (v0_5 p0)), .val (.int (v0_288 p0 p1 p2 HX)), .val (.int (m0_368_s0 p0 p1 p2 HX))] [(.int (m0_280_l8 p0)), (.int (p1 &&& (7 : Int32))), (.int (5 : Int32)), (.ref b2)])) t
            refine XS.aload X184.here hx rfl (hb hby at_416) rfl rfl ?_
            show Steps p.tables e below (T184.setTop (mkF m 418 #[.val (.int p0), .val (.int p1), .val (.int p2), .val (.int (v0_5 p0)), .val (.int (p1 &&& (7 : Int32))), .val (.int (p2.toInt8.toInt32)), .val (.ref b2), .val (.ref b47), .val (.int (m0_280_l8 p0)), .val (.int (v0_5 p0)), .val (.int (v0_288 p0 p1 p2 HX)), .val (.int (m0_368_s0 p0 p1 p2 HX))] [(.ref b47), (.int (m0_280_l8 p0)), (.int (p1 &&& (7 : Int32))), (.int (5 : Int32)), (.ref b2)])) t
            refine XS.iload X184.here hx rfl (hb hby at_418) rfl ?_
            exact k
          obtain ⟨_, _, ⟨T189, L189, kk189, n189⟩, -, X189, ⟨Lc189, hQ189, l189, y189, z189⟩, st189⟩ := Jvm.LawKit.callS X184 hx (y := (⟨"com/example/segmentry/segmentry/io/JsonTextEscapePinLaw", "ok", "([BIII[BB)Z"⟩ : MethodName)) hown (mvT hZ (hw _ (List.mem_of_getElem? (i := 12) rfl))) (mvT hZ (hw _ (List.mem_of_getElem? (i := 13) rfl))) (mvT hZ (hw _ (List.mem_of_getElem? (i := 4) rfl))) (mvT hZ (hw _ (List.mem_of_getElem? (i := 14) rfl))) (by decide) (backOf (W := 0) (rm3 l Z a0 hw [] b2 (5 : Int32) (p1 &&& (7 : Int32)) (m0_280_l8 p0) b47 (p2.toInt8.toInt32) (B0_esc p0 p1 p2 HX) (m0_280_b47 p0) T147.heap n0 (Nat.le_trans Zs50 Kq147.1) gB147' (c50_3.keep Kq147 (ninS (Ne.symm ne_50_b2_b47) nin0)) ⟨by decide, by decide⟩ (own_k6 _ _ _ (own_n6 p0))) hZ (hw _ (List.mem_of_getElem? (i := 14) rfl)) (hw _ (List.mem_of_getElem? (i := 4) rfl)) (by decide) (by decide)) (g := (mkF m 420 #[.val (.int p0), .val (.int p1), .val (.int p2), .val (.int (v0_5 p0)), .val (.int (p1 &&& (7 : Int32))), .val (.int (p2.toInt8.toInt32)), .val (.ref b2), .val (.ref b47), .val (.int (m0_280_l8 p0)), .val (.int (v0_5 p0)), .val (.int (v0_288 p0 p1 p2 HX)), .val (.int (m0_368_s0 p0 p1 p2 HX))] [(.int (p2.toInt8.toInt32)), (.ref b47), (.int (m0_280_l8 p0)), (.int (p1 &&& (7 : Int32))), (.int (5 : Int32)), (.ref b2)])) rfl (by rw [hml]; rfl) (argsL := [(.ref b2), (.int (5 : Int32)), (.int (p1 &&& (7 : Int32))), (.int (m0_280_l8 p0)), (.ref b47), (.int (p2.toInt8.toInt32))]) (rest := []) (lenOf pd_2 rfl) rfl (by show 2 * 0 + _ ≤ _; exact Nat.le_of_eq rfl) (hb hby at_420) (fun _ _ => ⟨rfl, eh184, (by decide : 2 + 0 ≤ _), (by decide : 20 + 0 ≤ _)⟩)
          dsimp only [Pt.U, Pt.locs, Pt.cells, Pt.slots] at X189 l189 y189 z189 st189 hQ189
          subst l189 y189 z189
          obtain ⟨rfl, N189q, eh189⟩ := hQ189
          have N189 := Fr.app N184 N189q
          have k190 : own_Go p e below (s₁.setTop (entryFrame m #[(.int p0), (.int p1), (.int p2)] maxLocals)) (T189.setTop (mkF m 423 #[.val (.int p0), .val (.int p1), .val (.int p2), .val (.int (v0_5 p0)), .val (.int (p1 &&& (7 : Int32))), .val (.int (p2.toInt8.toInt32)), .val (.ref b2), .val (.ref b47), .val (.int (m0_280_l8 p0)), .val (.int (v0_5 p0)), .val (.int (v0_288 p0 p1 p2 HX)), .val (.int (m0_368_s0 p0 p1 p2 HX))] [(.int (f3 (5 : Int32) (p1 &&& (7 : Int32)) (m0_280_l8 p0) (p2.toInt8.toInt32) (B0_esc p0 p1 p2 HX) (m0_280_b47 p0)))])) := fun t k => k188 t (st189 t k)
          by_cases hc423_191 : (f3 (5 : Int32) (p1 &&& (7 : Int32)) (m0_280_l8 p0) (p2.toInt8.toInt32) (B0_esc p0 p1 p2 HX) (m0_280_b47 p0)) = (0 : Int32)
          · have k192 : own_Go p e below (s₁.setTop (entryFrame m #[(.int p0), (.int p1), (.int p2)] maxLocals)) (T189.setTop (mkF m 431 #[.val (.int p0), .val (.int p1), .val (.int p2), .val (.int (v0_5 p0)), .val (.int (p1 &&& (7 : Int32))), .val (.int (p2.toInt8.toInt32)), .val (.ref b2), .val (.ref b47), .val (.int (m0_280_l8 p0)), .val (.int (v0_5 p0)), .val (.int (v0_288 p0 p1 p2 HX)), .val (.int (m0_368_s0 p0 p1 p2 HX))] [(.int (0 : Int32))])) := by
              intro t k
              refine k190 t ?_
              show Steps p.tables e below (T189.setTop (mkF m 423 #[.val (.int p0), .val (.int p1), .val (.int p2), .val (.int (v0_5 p0)), .val (.int (p1 &&& (7 : Int32))), .val (.int (p2.toInt8.toInt32)), .val (.ref b2), .val (.ref b47), .val (.int (m0_280_l8 p0)), .val (.int (v0_5 p0)), .val (.int (v0_288 p0 p1 p2 HX)), .val (.int (m0_368_s0 p0 p1 p2 HX))] [(.int (f3 (5 : Int32) (p1 &&& (7 : Int32)) (m0_280_l8 p0) (p2.toInt8.toInt32) (B0_esc p0 p1 p2 HX) (m0_280_b47 p0)))])) t
              refine XS.ifYes X189.here hx rfl (pc0 := 423) (pc' := 430) rfl (hb hby at_423) rfl ((if0 _ _).trans (teq hc423_191).1) (by decide) (by decide) ?_
              show Steps p.tables e below (T189.setTop (mkF m 430 #[.val (.int p0), .val (.int p1), .val (.int p2), .val (.int (v0_5 p0)), .val (.int (p1 &&& (7 : Int32))), .val (.int (p2.toInt8.toInt32)), .val (.ref b2), .val (.ref b47), .val (.int (m0_280_l8 p0)), .val (.int (v0_5 p0)), .val (.int (v0_288 p0 p1 p2 HX)), .val (.int (m0_368_s0 p0 p1 p2 HX))] [])) t
              refine XS.iconst X189.here hx rfl (hb hby at_430) ?_
              exact k
            exact ⟨_, _, X189, eh189, N189, (by rw [show (m0_431_s0 p0 p1 p2 HX) = (0 : Int32) from (by unfold m0_431_s0; rw [if_neg hc372_176, if_neg hc389_181, if_neg hc406_186, if_pos hc423_191])]; exact k192)⟩
          · have k193 : own_Go p e below (s₁.setTop (entryFrame m #[(.int p0), (.int p1), (.int p2)] maxLocals)) (T189.setTop (mkF m 431 #[.val (.int p0), .val (.int p1), .val (.int p2), .val (.int (v0_5 p0)), .val (.int (p1 &&& (7 : Int32))), .val (.int (p2.toInt8.toInt32)), .val (.ref b2), .val (.ref b47), .val (.int (m0_280_l8 p0)), .val (.int (v0_5 p0)), .val (.int (v0_288 p0 p1 p2 HX)), .val (.int (m0_368_s0 p0 p1 p2 HX))] [(.int (1 : Int32))])) := by
              intro t k
              refine k190 t ?_
              show Steps p.tables e below (T189.setTop (mkF m 423 #[.val (.int p0), .val (.int p1), .val (.int p2), .val (.int (v0_5 p0)), .val (.int (p1 &&& (7 : Int32))), .val (.int (p2.toInt8.toInt32)), .val (.ref b2), .val (.ref b47), .val (.int (m0_280_l8 p0)), .val (.int (v0_5 p0)), .val (.int (v0_288 p0 p1 p2 HX)), .val (.int (m0_368_s0 p0 p1 p2 HX))] [(.int (f3 (5 : Int32) (p1 &&& (7 : Int32)) (m0_280_l8 p0) (p2.toInt8.toInt32) (B0_esc p0 p1 p2 HX) (m0_280_b47 p0)))])) t
              refine XS.ifNo X189.here hx rfl (hb hby at_423) rfl ((if0 _ _).trans (feq hc423_191).1) ?_
              show Steps p.tables e below (T189.setTop (mkF m 426 #[.val (.int p0), .val (.int p1), .val (.int p2), .val (.int (v0_5 p0)), .val (.int (p1 &&& (7 : Int32))), .val (.int (p2.toInt8.toInt32)), .val (.ref b2), .val (.ref b47), .val (.int (m0_280_l8 p0)), .val (.int (v0_5 p0)), .val (.int (v0_288 p0 p1 p2 HX)), .val (.int (m0_368_s0 p0 p1 p2 HX))] [])) t
              refine XS.iconst X189.here hx rfl (hb hby at_426) ?_
              show Steps p.tables e below (T189.setTop (mkF m 427 #[.val (.int p0), .val (.int p1), .val (.int p2), .val (.int (v0_5 p0)), .val (.int (p1 &&& (7 : Int32))), .val (.int (p2.toInt8.toInt32)), .val (.ref b2), .val (.ref b47), .val (.int (m0_280_l8 p0)), .val (.int (v0_5 p0)), .val (.int (v0_288 p0 p1 p2 HX)), .val (.int (m0_368_s0 p0 p1 p2 HX))] [(.int (1 : Int32))])) t
              refine XS.goto X189.here hx rfl (pc0 := 427) (pc' := 431) rfl (hb hby at_427) (by decide) (by decide) ?_
              exact k
            exact ⟨_, _, X189, eh189, N189, (by rw [show (m0_431_s0 p0 p1 p2 HX) = (1 : Int32) from (by unfold m0_431_s0; rw [if_neg hc372_176, if_neg hc389_181, if_neg hc406_186, if_neg hc423_191])]; exact k193)⟩
  have k194 : own_Go p e below (s₁.setTop (entryFrame m #[(.int p0), (.int p1), (.int p2)] maxLocals)) (T175.setTop (mkF m 435 #[.val (.int p0), .val (.int p1), .val (.int p2), .val (.int (v0_5 p0)), .val (.int (p1 &&& (7 : Int32))), .val (.int (p2.toInt8.toInt32)), .val (.ref b2), .val (.ref b47), .val (.int (m0_280_l8 p0)), .val (.int (v0_5 p0)), .val (.int (v0_288 p0 p1 p2 HX)), .val (.int (m0_431_s0 p0 p1 p2 HX))] [(.int (m0_431_s0 p0 p1 p2 HX))])) := by
    intro t k
    refine k175 t ?_
    show Steps p.tables e below (T175.setTop (mkF m 431 #[.val (.int p0), .val (.int p1), .val (.int p2), .val (.int (v0_5 p0)), .val (.int (p1 &&& (7 : Int32))), .val (.int (p2.toInt8.toInt32)), .val (.ref b2), .val (.ref b47), .val (.int (m0_280_l8 p0)), .val (.int (v0_5 p0)), .val (.int (v0_288 p0 p1 p2 HX)), .val (.int (m0_368_s0 p0 p1 p2 HX))] [(.int (m0_431_s0 p0 p1 p2 HX))])) t
    refine XS.istore X175.here hx rfl (hb hby at_431) rfl (l' := #[.val (.int p0), .val (.int p1), .val (.int p2), .val (.int (v0_5 p0)), .val (.int (p1 &&& (7 : Int32))), .val (.int (p2.toInt8.toInt32)), .val (.ref b2), .val (.ref b47), .val (.int (m0_280_l8 p0)), .val (.int (v0_5 p0)), .val (.int (v0_288 p0 p1 p2 HX)), .val (.int (m0_431_s0 p0 p1 p2 HX))]) rfl ?_
    show Steps p.tables e below (T175.setTop (mkF m 433 #[.val (.int p0), .val (.int p1), .val (.int p2), .val (.int (v0_5 p0)), .val (.int (p1 &&& (7 : Int32))), .val (.int (p2.toInt8.toInt32)), .val (.ref b2), .val (.ref b47), .val (.int (m0_280_l8 p0)), .val (.int (v0_5 p0)), .val (.int (v0_288 p0 p1 p2 HX)), .val (.int (m0_431_s0 p0 p1 p2 HX))] [])) t
    refine XS.iload X175.here hx rfl (hb hby at_433) rfl ?_
    exact k
  obtain ⟨T195, L195, X195, e195, N195, k195⟩ : ∃ (T195 : State) (L195 : List Loc), Stand p l e room_1 s m #[(.int p0), (.int p1), (.int p2)] below meth c T195 L195 2 20 ∧ T195.heap = T147.heap ∧ Fr n0 L195 ∧ own_Go p e below (s₁.setTop (entryFrame m #[(.int p0), (.int p1), (.int p2)] maxLocals)) (T195.setTop (mkF m 497 #[.val (.int p0), .val (.int p1), .val (.int p2), .val (.int (v0_5 p0)), .val (.int (p1 &&& (7 : Int32))), .val (.int (p2.toInt8.toInt32)), .val (.ref b2), .val (.ref b47), .val (.int (m0_280_l8 p0)), .val (.int (v0_5 p0)), .val (.int (v0_288 p0 p1 p2 HX)), .val (.int (m0_431_s0 p0 p1 p2 HX))] [(.int (m0_497_s0 p0 p1 p2 HX))])) := by
    by_cases hc435_196 : (m0_431_s0 p0 p1 p2 HX) = (0 : Int32)
    · have k197 : own_Go p e below (s₁.setTop (entryFrame m #[(.int p0), (.int p1), (.int p2)] maxLocals)) (T175.setTop (mkF m 497 #[.val (.int p0), .val (.int p1), .val (.int p2), .val (.int (v0_5 p0)), .val (.int (p1 &&& (7 : Int32))), .val (.int (p2.toInt8.toInt32)), .val (.ref b2), .val (.ref b47), .val (.int (m0_280_l8 p0)), .val (.int (v0_5 p0)), .val (.int (v0_288 p0 p1 p2 HX)), .val (.int (m0_431_s0 p0 p1 p2 HX))] [(.int (0 : Int32))])) := by
        intro t k
        refine k194 t ?_
        show Steps p.tables e below (T175.setTop (mkF m 435 #[.val (.int p0), .val (.int p1), .val (.int p2), .val (.int (v0_5 p0)), .val (.int (p1 &&& (7 : Int32))), .val (.int (p2.toInt8.toInt32)), .val (.ref b2), .val (.ref b47), .val (.int (m0_280_l8 p0)), .val (.int (v0_5 p0)), .val (.int (v0_288 p0 p1 p2 HX)), .val (.int (m0_431_s0 p0 p1 p2 HX))] [(.int (m0_431_s0 p0 p1 p2 HX))])) t
        refine XS.ifYes X175.here hx rfl (pc0 := 435) (pc' := 496) rfl (hb hby at_435) rfl ((if0 _ _).trans (teq hc435_196).1) (by decide) (by decide) ?_
        show Steps p.tables e below (T175.setTop (mkF m 496 #[.val (.int p0), .val (.int p1), .val (.int p2), .val (.int (v0_5 p0)), .val (.int (p1 &&& (7 : Int32))), .val (.int (p2.toInt8.toInt32)), .val (.ref b2), .val (.ref b47), .val (.int (m0_280_l8 p0)), .val (.int (v0_5 p0)), .val (.int (v0_288 p0 p1 p2 HX)), .val (.int (m0_431_s0 p0 p1 p2 HX))] [])) t
        refine XS.iconst X175.here hx rfl (hb hby at_496) ?_
        exact k
      exact ⟨_, _, X175, e175, N175, (by rw [show (m0_497_s0 p0 p1 p2 HX) = (0 : Int32) from (by unfold m0_497_s0; rw [if_pos hc435_196])]; exact k197)⟩
    · have k198 : own_Go p e below (s₁.setTop (entryFrame m #[(.int p0), (.int p1), (.int p2)] maxLocals)) (T175.setTop (mkF m 450 #[.val (.int p0), .val (.int p1), .val (.int p2), .val (.int (v0_5 p0)), .val (.int (p1 &&& (7 : Int32))), .val (.int (p2.toInt8.toInt32)), .val (.ref b2), .val (.ref b47), .val (.int (m0_280_l8 p0)), .val (.int (v0_5 p0)), .val (.int (v0_288 p0 p1 p2 HX)), .val (.int (m0_431_s0 p0 p1 p2 HX))] [(.int (p2.toInt8.toInt32)), (.ref b47), (.int (m0_280_l8 p0)), (.int (p1 &&& (7 : Int32))), (.int (6 : Int32)), (.ref b2)])) := by
        intro t k
        refine k194 t ?_
        show Steps p.tables e below (T175.setTop (mkF m 435 #[.val (.int p0), .val (.int p1), .val (.int p2), .val (.int (v0_5 p0)), .val (.int (p1 &&& (7 : Int32))), .val (.int (p2.toInt8.toInt32)), .val (.ref b2), .val (.ref b47), .val (.int (m0_280_l8 p0)), .val (.int (v0_5 p0)), .val (.int (v0_288 p0 p1 p2 HX)), .val (.int (m0_431_s0 p0 p1 p2 HX))] [(.int (m0_431_s0 p0 p1 p2 HX))])) t
        refine XS.ifNo X175.here hx rfl (hb hby at_435) rfl ((if0 _ _).trans (feq hc435_196).1) ?_
        show Steps p.tables e below (T175.setTop (mkF m 438 #[.val (.int p0), .val (.int p1), .val (.int p2), .val (.int (v0_5 p0)), .val (.int (p1 &&& (7 : Int32))), .val (.int (p2.toInt8.toInt32)), .val (.ref b2), .val (.ref b47), .val (.int (m0_280_l8 p0)), .val (.int (v0_5 p0)), .val (.int (v0_288 p0 p1 p2 HX)), .val (.int (m0_431_s0 p0 p1 p2 HX))] [])) t
        refine XS.aload X175.here hx rfl (hb hby at_438) rfl rfl ?_
        show Steps p.tables e below (T175.setTop (mkF m 440 #[.val (.int p0), .val (.int p1), .val (.int p2), .val (.int (v0_5 p0)), .val (.int (p1 &&& (7 : Int32))), .val (.int (p2.toInt8.toInt32)), .val (.ref b2), .val (.ref b47), .val (.int (m0_280_l8 p0)), .val (.int (v0_5 p0)), .val (.int (v0_288 p0 p1 p2 HX)), .val (.int (m0_431_s0 p0 p1 p2 HX))] [(.ref b2)])) t
        refine XS.bipush X175.here hx rfl (hb hby at_440) ?_
        show Steps p.tables e below (T175.setTop (mkF m 442 #[.val (.int p0), .val (.int p1), .val (.int p2), .val (.int (v0_5 p0)), .val (.int (p1 &&& (7 : Int32))), .val (.int (p2.toInt8.toInt32)), .val (.ref b2), .val (.ref b47), .val (.int (m0_280_l8 p0)), .val (.int (v0_5 p0)), .val (.int (v0_288 p0 p1 p2 HX)), .val (.int (m0_431_s0 p0 p1 p2 HX))] [(.int (6 : Int32)), (.ref b2)])) t
        refine XS.iload X175.here hx rfl (hb hby at_442) rfl ?_
        show Steps p.tables e below (T175.setTop (mkF m 444 #[.val (.int p0), .val (.int p1), .val (.int p2), .val (.int (v0_5 p0)), .val (.int (p1 &&& (7 : Int32))), .val (.int (p2.toInt8.toInt32)), .val (.ref b2), .val (.ref b47), .val (.int (m0_280_l8 p0)), .val (.int (v0_5 p0)), .val (.int (v0_288 p0 p1 p2 HX)), .val (.int (m0_431_s0 p0 p1 p2 HX))] [(.int (p1 &&& (7 : Int32))), (.int (6 : Int32)), (.ref b2)])) t
        refine XS.iload X175.here hx rfl (hb hby at_444) rfl ?_
        show Steps p.tables e below (T175.setTop (mkF m 446 #[.val (.int p0), .val (.int p1), .val (.int p2), .val (.int (v0_5 p0)), .val (.int (p1 &&& (7 : Int32))), .val (.int (p2.toInt8.toInt32)), .val (.ref b2), .val (.ref b47), .val (.int (m0_280_l8 p0)), .val (.int (v0_5 p0)), .val (.int (v0_288 p0 p1 p2 HX)), .val (.int (m0_431_s0 p0 p1 p2 HX))] [(.int (m0_280_l8 p0)), (.int (p1 &&& (7 : Int32))), (.int (6 : Int32)), (.ref b2)])) t
        refine XS.aload X175.here hx rfl (hb hby at_446) rfl rfl ?_
        show Steps p.tables e below (T175.setTop (mkF m 448 #[.val (.int p0), .val (.int p1), .val (.int p2), .val (.int (v0_5 p0)), .val (.int (p1 &&& (7 : Int32))), .val (.int (p2.toInt8.toInt32)), .val (.ref b2), .val (.ref b47), .val (.int (m0_280_l8 p0)), .val (.int (v0_5 p0)), .val (.int (v0_288 p0 p1 p2 HX)), .val (.int (m0_431_s0 p0 p1 p2 HX))] [(.ref b47), (.int (m0_280_l8 p0)), (.int (p1 &&& (7 : Int32))), (.int (6 : Int32)), (.ref b2)])) t
        refine XS.iload X175.here hx rfl (hb hby at_448) rfl ?_
        exact k
      obtain ⟨_, _, ⟨T199, L199, kk199, n199⟩, -, X199, ⟨Lc199, hQ199, l199, y199, z199⟩, st199⟩ := Jvm.LawKit.callS X175 hx (y := (⟨"com/example/segmentry/segmentry/io/JsonTextEscapePinLaw", "ok", "([BIII[BB)Z"⟩ : MethodName)) hown (mvT hZ (hw _ (List.mem_of_getElem? (i := 12) rfl))) (mvT hZ (hw _ (List.mem_of_getElem? (i := 13) rfl))) (mvT hZ (hw _ (List.mem_of_getElem? (i := 4) rfl))) (mvT hZ (hw _ (List.mem_of_getElem? (i := 14) rfl))) (by decide) (backOf (W := 0) (rm3 l Z a0 hw [] b2 (6 : Int32) (p1 &&& (7 : Int32)) (m0_280_l8 p0) b47 (p2.toInt8.toInt32) (B0_esc p0 p1 p2 HX) (m0_280_b47 p0) T147.heap n0 (Nat.le_trans Zs50 Kq147.1) gB147' (c50_3.keep Kq147 (ninS (Ne.symm ne_50_b2_b47) nin0)) ⟨by decide, by decide⟩ (own_k6 _ _ _ (own_n6 p0))) hZ (hw _ (List.mem_of_getElem? (i := 14) rfl)) (hw _ (List.mem_of_getElem? (i := 4) rfl)) (by decide) (by decide)) (g := (mkF m 450 #[.val (.int p0), .val (.int p1), .val (.int p2), .val (.int (v0_5 p0)), .val (.int (p1 &&& (7 : Int32))), .val (.int (p2.toInt8.toInt32)), .val (.ref b2), .val (.ref b47), .val (.int (m0_280_l8 p0)), .val (.int (v0_5 p0)), .val (.int (v0_288 p0 p1 p2 HX)), .val (.int (m0_431_s0 p0 p1 p2 HX))] [(.int (p2.toInt8.toInt32)), (.ref b47), (.int (m0_280_l8 p0)), (.int (p1 &&& (7 : Int32))), (.int (6 : Int32)), (.ref b2)])) rfl (by rw [hml]; rfl) (argsL := [(.ref b2), (.int (6 : Int32)), (.int (p1 &&& (7 : Int32))), (.int (m0_280_l8 p0)), (.ref b47), (.int (p2.toInt8.toInt32))]) (rest := []) (lenOf pd_2 rfl) rfl (by show 2 * 0 + _ ≤ _; exact Nat.le_of_eq rfl) (hb hby at_450) (fun _ _ => ⟨rfl, e175, (by decide : 2 + 0 ≤ _), (by decide : 20 + 0 ≤ _)⟩)
      dsimp only [Pt.U, Pt.locs, Pt.cells, Pt.slots] at X199 l199 y199 z199 st199 hQ199
      subst l199 y199 z199
      obtain ⟨rfl, N199q, eh199⟩ := hQ199
      have N199 := Fr.app N175 N199q
      have k200 : own_Go p e below (s₁.setTop (entryFrame m #[(.int p0), (.int p1), (.int p2)] maxLocals)) (T199.setTop (mkF m 453 #[.val (.int p0), .val (.int p1), .val (.int p2), .val (.int (v0_5 p0)), .val (.int (p1 &&& (7 : Int32))), .val (.int (p2.toInt8.toInt32)), .val (.ref b2), .val (.ref b47), .val (.int (m0_280_l8 p0)), .val (.int (v0_5 p0)), .val (.int (v0_288 p0 p1 p2 HX)), .val (.int (m0_431_s0 p0 p1 p2 HX))] [(.int (f3 (6 : Int32) (p1 &&& (7 : Int32)) (m0_280_l8 p0) (p2.toInt8.toInt32) (B0_esc p0 p1 p2 HX) (m0_280_b47 p0)))])) := fun t k => k198 t (st199 t k)
      by_cases hc453_201 : (f3 (6 : Int32) (p1 &&& (7 : Int32)) (m0_280_l8 p0) (p2.toInt8.toInt32) (B0_esc p0 p1 p2 HX) (m0_280_b47 p0)) = (0 : Int32)
      · have k202 : own_Go p e below (s₁.setTop (entryFrame m #[(.int p0), (.int p1), (.int p2)] maxLocals)) (T199.setTop (mkF m 497 #[.val (.int p0), .val (.int p1), .val (.int p2), .val (.int (v0_5 p0)), .val (.int (p1 &&& (7 : Int32))), .val (.int (p2.toInt8.toInt32)), .val (.ref b2), .val (.ref b47), .val (.int (m0_280_l8 p0)), .val (.int (v0_5 p0)), .val (.int (v0_288 p0 p1 p2 HX)), .val (.int (m0_431_s0 p0 p1 p2 HX))] [(.int (0 : Int32))])) := by
          intro t k
          refine k200 t ?_
          show Steps p.tables e below (T199.setTop (mkF m 453 #[.val (.int p0), .val (.int p1), .val (.int p2), .val (.int (v0_5 p0)), .val (.int (p1 &&& (7 : Int32))), .val (.int (p2.toInt8.toInt32)), .val (.ref b2), .val (.ref b47), .val (.int (m0_280_l8 p0)), .val (.int (v0_5 p0)), .val (.int (v0_288 p0 p1 p2 HX)), .val (.int (m0_431_s0 p0 p1 p2 HX))] [(.int (f3 (6 : Int32) (p1 &&& (7 : Int32)) (m0_280_l8 p0) (p2.toInt8.toInt32) (B0_esc p0 p1 p2 HX) (m0_280_b47 p0)))])) t
          refine XS.ifYes X199.here hx rfl (pc0 := 453) (pc' := 496) rfl (hb hby at_453) rfl ((if0 _ _).trans (teq hc453_201).1) (by decide) (by decide) ?_
          show Steps p.tables e below (T199.setTop (mkF m 496 #[.val (.int p0), .val (.int p1), .val (.int p2), .val (.int (v0_5 p0)), .val (.int (p1 &&& (7 : Int32))), .val (.int (p2.toInt8.toInt32)), .val (.ref b2), .val (.ref b47), .val (.int (m0_280_l8 p0)), .val (.int (v0_5 p0)), .val (.int (v0_288 p0 p1 p2 HX)), .val (.int (m0_431_s0 p0 p1 p2 HX))] [])) t
          refine XS.iconst X199.here hx rfl (hb hby at_496) ?_
          exact k
        exact ⟨_, _, X199, eh199, N199, (by rw [show (m0_497_s0 p0 p1 p2 HX) = (0 : Int32) from (by unfold m0_497_s0; rw [if_neg hc435_196, if_pos hc453_201])]; exact k202)⟩
      · have k203 : own_Go p e below (s₁.setTop (entryFrame m #[(.int p0), (.int p1), (.int p2)] maxLocals)) (T199.setTop (mkF m 468 #[.val (.int p0), .val (.int p1), .val (.int p2), .val (.int (v0_5 p0)), .val (.int (p1 &&& (7 : Int32))), .val (.int (p2.toInt8.toInt32)), .val (.ref b2), .val (.ref b47), .val (.int (m0_280_l8 p0)), .val (.int (v0_5 p0)), .val (.int (v0_288 p0 p1 p2 HX)), .val (.int (m0_431_s0 p0 p1 p2 HX))] [(.int (p2.toInt8.toInt32)), (.ref b47), (.int (m0_280_l8 p0)), (.int (p1 &&& (7 : Int32))), (.int (7 : Int32)), (.ref b2)])) := by
          intro t k
          refine k200 t ?_
          show Steps p.tables e below (T199.setTop (mkF m 453 #[.val (.int p0), .val (.int p1), .val (.int p2), .val (.int (v0_5 p0)), .val (.int (p1 &&& (7 : Int32))), .val (.int (p2.toInt8.toInt32)), .val (.ref b2), .val (.ref b47), .val (.int (m0_280_l8 p0)), .val (.int (v0_5 p0)), .val (.int (v0_288 p0 p1 p2 HX)), .val (.int (m0_431_s0 p0 p1 p2 HX))] [(.int (f3 (6 : Int32) (p1 &&& (7 : Int32)) (m0_280_l8 p0) (p2.toInt8.toInt32) (B0_esc p0 p1 p2 HX) (m0_280_b47 p0)))])) t
          refine XS.ifNo X199.here hx rfl (hb hby at_453) rfl ((if0 _ _).trans (feq hc453_201).1) ?_
          show Steps p.tables e below (T199.setTop (mkF m 456 #[.val (.int p0), .val (.int p1), .val (.int p2), .val (.int (v0_5 p0)), .val (.int (p1 &&& (7 : Int32))), .val (.int (p2.toInt8.toInt32)), .val (.ref b2), .val (.ref b47), .val (.int (m0_280_l8 p0)), .val (.int (v0_5 p0)), .val (.int (v0_288 p0 p1 p2 HX)), .val (.int (m0_431_s0 p0 p1 p2 HX))] [])) t
          refine XS.aload X199.here hx rfl (hb hby at_456) rfl rfl ?_
          show Steps p.tables e below (T199.setTop (mkF m 458 #[.val (.int p0), .val (.int p1), .val (.int p2), .val (.int (v0_5 p0)), .val (.int (p1 &&& (7 : Int32))), .val (.int (p2.toInt8.toInt32)), .val (.ref b2), .val (.ref b47), .val (.int (m0_280_l8 p0)), .val (.int (v0_5 p0)), .val (.int (v0_288 p0 p1 p2 HX)), .val (.int (m0_431_s0 p0 p1 p2 HX))] [(.ref b2)])) t
          refine XS.bipush X199.here hx rfl (hb hby at_458) ?_
          show Steps p.tables e below (T199.setTop (mkF m 460 #[.val (.int p0), .val (.int p1), .val (.int p2), .val (.int (v0_5 p0)), .val (.int (p1 &&& (7 : Int32))), .val (.int (p2.toInt8.toInt32)), .val (.ref b2), .val (.ref b47), .val (.int (m0_280_l8 p0)), .val (.int (v0_5 p0)), .val (.int (v0_288 p0 p1 p2 HX)), .val (.int (m0_431_s0 p0 p1 p2 HX))] [(.int (7 : Int32)), (.ref b2)])) t
          refine XS.iload X199.here hx rfl (hb hby at_460) rfl ?_
          show Steps p.tables e below (T199.setTop (mkF m 462 #[.val (.int p0), .val (.int p1), .val (.int p2), .val (.int (v0_5 p0)), .val (.int (p1 &&& (7 : Int32))), .val (.int (p2.toInt8.toInt32)), .val (.ref b2), .val (.ref b47), .val (.int (m0_280_l8 p0)), .val (.int (v0_5 p0)), .val (.int (v0_288 p0 p1 p2 HX)), .val (.int (m0_431_s0 p0 p1 p2 HX))] [(.int (p1 &&& (7 : Int32))), (.int (7 : Int32)), (.ref b2)])) t
          refine XS.iload X199.here hx rfl (hb hby at_462) rfl ?_
          show Steps p.tables e below (T199.setTop (mkF m 464 #[.val (.int p0), .val (.int p1), .val (.int p2), .val (.int (v0_5 p0)), .val (.int (p1 &&& (7 : Int32))), .val (.int (p2.toInt8.toInt32)), .val (.ref b2), .val (.ref b47), .val (.int (m0_280_l8 p0)), .val (.int (v0_5 p0)), .val (.int (v0_288 p0 p1 p2 HX)), .val (.int (m0_431_s0 p0 p1 p2 HX))] [(.int (m0_280_l8 p0)), (.int (p1 &&& (7 : Int32))), (.int (7 : Int32)), (.ref b2)])) t
          refine XS.aload X199.here hx rfl (hb hby at_464) rfl rfl ?_
          show Steps p.tables e below (T199.setTop (mkF m 466 #[.val (.int p0), .val (.int p1), .val (.int p2), .val (.int (v0_5 p0)), .val (.int (p1 &&& (7 : Int32))), .val (.int (p2.toInt8.toInt32)), .val (.ref b2), .val (.ref b47), .val (.int (m0_280_l8 p0)), .val (.int (v0_5 p0)), .val (.int (v0_288 p0 p1 p2 HX)), .val (.int (m0_431_s0 p0 p1 p2 HX))] [(.ref b47), (.int (m0_280_l8 p0)), (.int (p1 &&& (7 : Int32))), (.int (7 : Int32)), (.ref b2)])) t
          refine XS.iload X199.here hx rfl (hb hby at_466) rfl ?_
          exact k
        obtain ⟨_, _, ⟨T204, L204, kk204, n204⟩, -, X204, ⟨Lc204, hQ204, l204, y204, z204⟩, st204⟩ := Jvm.LawKit.callS X199 hx (y := (⟨"com/example/segmentry/segmentry/io/JsonTextEscapePinLaw", "ok", "([BIII[BB)Z"⟩ : MethodName)) hown (mvT hZ (hw _ (List.mem_of_getElem? (i := 12) rfl))) (mvT hZ (hw _ (List.mem_of_getElem? (i := 13) rfl))) (mvT hZ (hw _ (List.mem_of_getElem? (i := 4) rfl))) (mvT hZ (hw _ (List.mem_of_getElem? (i := 14) rfl))) (by decide) (backOf (W := 0) (rm3 l Z a0 hw [] b2 (7 : Int32) (p1 &&& (7 : Int32)) (m0_280_l8 p0) b47 (p2.toInt8.toInt32) (B0_esc p0 p1 p2 HX) (m0_280_b47 p0) T147.heap n0 (Nat.le_trans Zs50 Kq147.1) gB147' (c50_3.keep Kq147 (ninS (Ne.symm ne_50_b2_b47) nin0)) ⟨by decide, by decide⟩ (own_k6 _ _ _ (own_n6 p0))) hZ (hw _ (List.mem_of_getElem? (i := 14) rfl)) (hw _ (List.mem_of_getElem? (i := 4) rfl)) (by decide) (by decide)) (g := (mkF m 468 #[.val (.int p0), .val (.int p1), .val (.int p2), .val (.int (v0_5 p0)), .val (.int (p1 &&& (7 : Int32))), .val (.int (p2.toInt8.toInt32)), .val (.ref b2), .val (.ref b47), .val (.int (m0_280_l8 p0)), .val (.int (v0_5 p0)), .val (.int (v0_288 p0 p1 p2 HX)), .val (.int (m0_431_s0 p0 p1 p2 HX))] [(.int (p2.toInt8.toInt32)), (.ref b47), (.int (m0_280_l8 p0)), (.int (p1 &&& (7 : Int32))), (.int (7 : Int32)), (.ref b2)])) rfl (by rw [hml]; rfl) (argsL := [(.ref b2), (.int (7 : Int32)), (.int (p1 &&& (7 : Int32))), (.int (m0_280_l8 p0)), (.ref b47), (.int (p2.toInt8.toInt32))]) (rest := []) (lenOf pd_2 rfl) rfl (by show 2 * 0 + _ ≤ _; exact Nat.le_of_eq rfl) (hb hby at_468) (fun _ _ => ⟨rfl, eh199, (by decide : 2 + 0 ≤ _), (by decide : 20 + 0 ≤ _)⟩)
        dsimp only [Pt.U, Pt.locs, Pt.cells, Pt.slots] at X204 l204 y204 z204 st204 hQ204
        subst l204 y204 z204
        obtain ⟨rfl, N204q, eh204⟩ := hQ204
        have N204 := Fr.app N199 N204q
        have k205 : own_Go p e below (s₁.setTop (entryFrame m #[(.int p0), (.int p1), (.int p2)] maxLocals)) (T204.setTop (mkF m 471 #[.val (.int p0), .val (.int p1), .val (.int p2), .val (.int (v0_5 p0)), .val (.int (p1 &&& (7 : Int32))), .val (.int (p2.toInt8.toInt32)), .val (.ref b2), .val (.ref b47), .val (.int (m0_280_l8 p0)), .val (.int (v0_5 p0)), .val (.int (v0_288 p0 p1 p2 HX)), .val (.int (m0_431_s0 p0 p1 p2 HX))] [(.int (f3 (7 : Int32) (p1 &&& (7 : Int32)) (m0_280_l8 p0) (p2.toInt8.toInt32) (B0_esc p0 p1 p2 HX) (m0_280_b47 p0)))])) := fun t k => k203 t (st204 t k)
        by_cases hc471_206 : (f3 (7 : Int32) (p1 &&& (7 : Int32)) (m0_280_l8 p0) (p2.toInt8.toInt32) (B0_esc p0 p1 p2 HX) (m0_280_b47 p0)) = (0 : Int32)
        · have k207 : own_Go p e below (s₁.setTop (entryFrame m #[(.int p0), (.int p1), (.int p2)] maxLocals)) (T204.setTop (mkF m 497 #[.val (.int p0), .val (.int p1), .val (.int p2), .val (.int (v0_5 p0)), .val (.int (p1 &&& (7 : Int32))), .val (.int (p2.toInt8.toInt32)), .val (.ref b2), .val (.ref b47), .val (.int (m0_280_l8 p0)), .val (.int (v0_5 p0)), .val (.int (v0_288 p0 p1 p2 HX)), .val (.int (m0_431_s0 p0 p1 p2 HX))] [(.int (0 : Int32))])) := by
            intro t k
            refine k205 t ?_
            show Steps p.tables e below (T204.setTop (mkF m 471 #[.val (.int p0), .val (.int p1), .val (.int p2), .val (.int (v0_5 p0)), .val (.int (p1 &&& (7 : Int32))), .val (.int (p2.toInt8.toInt32)), .val (.ref b2), .val (.ref b47), .val (.int (m0_280_l8 p0)), .val (.int (v0_5 p0)), .val (.int (v0_288 p0 p1 p2 HX)), .val (.int (m0_431_s0 p0 p1 p2 HX))] [(.int (f3 (7 : Int32) (p1 &&& (7 : Int32)) (m0_280_l8 p0) (p2.toInt8.toInt32) (B0_esc p0 p1 p2 HX) (m0_280_b47 p0)))])) t
            refine XS.ifYes X204.here hx rfl (pc0 := 471) (pc' := 496) rfl (hb hby at_471) rfl ((if0 _ _).trans (teq hc471_206).1) (by decide) (by decide) ?_
            show Steps p.tables e below (T204.setTop (mkF m 496 #[.val (.int p0), .val (.int p1), .val (.int p2), .val (.int (v0_5 p0)), .val (.int (p1 &&& (7 : Int32))), .val (.int (p2.toInt8.toInt32)), .val (.ref b2), .val (.ref b47), .val (.int (m0_280_l8 p0)), .val (.int (v0_5 p0)), .val (.int (v0_288 p0 p1 p2 HX)), .val (.int (m0_431_s0 p0 p1 p2 HX))] [])) t
            refine XS.iconst X204.here hx rfl (hb hby at_496) ?_
            exact k
          exact ⟨_, _, X204, eh204, N204, (by rw [show (m0_497_s0 p0 p1 p2 HX) = (0 : Int32) from (by unfold m0_497_s0; rw [if_neg hc435_196, if_neg hc453_201, if_pos hc471_206])]; exact k207)⟩
        · have k208 : own_Go p e below (s₁.setTop (entryFrame m #[(.int p0), (.int p1), (.int p2)] maxLocals)) (T204.setTop (mkF m 486 #[.val (.int p0), .val (.int p1), .val (.int p2), .val (.int (v0_5 p0)), .val (.int (p1 &&& (7 : Int32))), .val (.int (p2.toInt8.toInt32)), .val (.ref b2), .val (.ref b47), .val (.int (m0_280_l8 p0)), .val (.int (v0_5 p0)), .val (.int (v0_288 p0 p1 p2 HX)), .val (.int (m0_431_s0 p0 p1 p2 HX))] [(.int (p2.toInt8.toInt32)), (.ref b47), (.int (m0_280_l8 p0)), (.int (p1 &&& (7 : Int32))), (.int (8 : Int32)), (.ref b2)])) := by
            intro t k
            refine k205 t ?_
            show Steps p.tables e below (T204.setTop (mkF m 471 #[.val (.int p0), .val (.int p1), .val (.int p2), .val (.int (v0_5 p0)), .val (.int (p1 &&& (7 : Int32))), .val (.int (p2.toInt8.toInt32)), .val (.ref b2), .val (.ref b47), .val (.int (m0_280_l8 p0)), .val (.int (v0_5 p0)), .val (.int (v0_288 p0 p1 p2 HX)), .val (.int (m0_431_s0 p0 p1 p2 HX))] [(.int (f3 (7 : Int32) (p1 &&& (7 : Int32)) (m0_280_l8 p0) (p2.toInt8.toInt32) (B0_esc p0 p1 p2 HX) (m0_280_b47 p0)))])) t
            refine XS.ifNo X204.here hx rfl (hb hby at_471) rfl ((if0 _ _).trans (feq hc471_206).1) ?_
            show Steps p.tables e below (T204.setTop (mkF m 474 #[.val (.int p0), .val (.int p1), .val (.int p2), .val (.int (v0_5 p0)), .val (.int (p1 &&& (7 : Int32))), .val (.int (p2.toInt8.toInt32)), .val (.ref b2), .val (.ref b47), .val (.int (m0_280_l8 p0)), .val (.int (v0_5 p0)), .val (.int (v0_288 p0 p1 p2 HX)), .val (.int (m0_431_s0 p0 p1 p2 HX))] [])) t
            refine XS.aload X204.here hx rfl (hb hby at_474) rfl rfl ?_
            show Steps p.tables e below (T204.setTop (mkF m 476 #[.val (.int p0), .val (.int p1), .val (.int p2), .val (.int (v0_5 p0)), .val (.int (p1 &&& (7 : Int32))), .val (.int (p2.toInt8.toInt32)), .val (.ref b2), .val (.ref b47), .val (.int (m0_280_l8 p0)), .val (.int (v0_5 p0)), .val (.int (v0_288 p0 p1 p2 HX)), .val (.int (m0_431_s0 p0 p1 p2 HX))] [(.ref b2)])) t
            refine XS.bipush X204.here hx rfl (hb hby at_476) ?_
            show Steps p.tables e below (T204.setTop (mkF m 478 #[.val (.int p0), .val (.int p1), .val (.int p2), .val (.int (v0_5 p0)), .val (.int (p1 &&& (7 : Int32))), .val (.int (p2.toInt8.toInt32)), .val (.ref b2), .val (.ref b47), .val (.int (m0_280_l8 p0)), .val (.int (v0_5 p0)), .val (.int (v0_288 p0 p1 p2 HX)), .val (.int (m0_431_s0 p0 p1 p2 HX))] [(.int (8 : Int32)), (.ref b2)])) t
            refine XS.iload X204.here hx rfl (hb hby at_478) rfl ?_
            show Steps p.tables e below (T204.setTop (mkF m 480 #[.val (.int p0), .val (.int p1), .val (.int p2), .val (.int (v0_5 p0)), .val (.int (p1 &&& (7 : Int32))), .val (.int (p2.toInt8.toInt32)), .val (.ref b2), .val (.ref b47), .val (.int (m0_280_l8 p0)), .val (.int (v0_5 p0)), .val (.int (v0_288 p0 p1 p2 HX)), .val (.int (m0_431_s0 p0 p1 p2 HX))] [(.int (p1 &&& (7 : Int32))), (.int (8 : Int32)), (.ref b2)])) t
            refine XS.iload X204.here hx rfl (hb hby at_480) rfl ?_
            show Steps p.tables e below (T204.setTop (mkF m 482 #[.val (.int p0), .val (.int p1), .val (.int p2), .val (.int (v0_5 p0)), .val (.int (p1 &&& (7 : Int32))), .val (.int (p2.toInt8.toInt32)), .val (.ref b2), .val (.ref b47), .val (.int (m0_280_l8 p0)), .val (.int (v0_5 p0)), .val (.int (v0_288 p0 p1 p2 HX)), .val (.int (m0_431_s0 p0 p1 p2 HX))] [(.int (m0_280_l8 p0)), (.int (p1 &&& (7 : Int32))), (.int (8 : Int32)), (.ref b2)])) t
            refine XS.aload X204.here hx rfl (hb hby at_482) rfl rfl ?_
            show Steps p.tables e below (T204.setTop (mkF m 484 #[.val (.int p0), .val (.int p1), .val (.int p2), .val (.int (v0_5 p0)), .val (.int (p1 &&& (7 : Int32))), .val (.int (p2.toInt8.toInt32)), .val (.ref b2), .val (.ref b47), .val (.int (m0_280_l8 p0)), .val (.int (v0_5 p0)), .val (.int (v0_288 p0 p1 p2 HX)), .val (.int (m0_431_s0 p0 p1 p2 HX))] [(.ref b47), (.int (m0_280_l8 p0)), (.int (p1 &&& (7 : Int32))), (.int (8 : Int32)), (.ref b2)])) t
            refine XS.iload X204.here hx rfl (hb hby at_484) rfl ?_
            exact k
          obtain ⟨_, _, ⟨T209, L209, kk209, n209⟩, -, X209, ⟨Lc209, hQ209, l209, y209, z209⟩, st209⟩ := Jvm.LawKit.callS X204 hx (y := (⟨"com/example/segmentry/segmentry/io/JsonTextEscapePinLaw", "ok", "([BIII[BB)Z"⟩ : MethodName)) hown (mvT hZ (hw _ (List.mem_of_getElem? (i := 12) rfl))) (mvT hZ (hw _ (List.mem_of_getElem? (i := 13) rfl))) (mvT hZ (hw _ (List.mem_of_getElem? (i := 4) rfl))) (mvT hZ (hw _ (List.mem_of_getElem? (i := 14) rfl))) (by decide) (backOf (W := 0) (rm3 l Z a0 hw [] b2 (8 : Int32) (p1 &&& (7 : Int32)) (m0_280_l8 p0) b47 (p2.toInt8.toInt32) (B0_esc p0 p1 p2 HX) (m0_280_b47 p0) T147.heap n0 (Nat.le_trans Zs50 Kq147.1) gB147' (c50_3.keep Kq147 (ninS (Ne.symm ne_50_b2_b47) nin0)) ⟨by decide, by decide⟩ (own_k6 _ _ _ (own_n6 p0))) hZ (hw _ (List.mem_of_getElem? (i := 14) rfl)) (hw _ (List.mem_of_getElem? (i := 4) rfl)) (by decide) (by decide)) (g := (mkF m 486 #[.val (.int p0), .val (.int p1), .val (.int p2), .val (.int (v0_5 p0)), .val (.int (p1 &&& (7 : Int32))), .val (.int (p2.toInt8.toInt32)), .val (.ref b2), .val (.ref b47), .val (.int (m0_280_l8 p0)), .val (.int (v0_5 p0)), .val (.int (v0_288 p0 p1 p2 HX)), .val (.int (m0_431_s0 p0 p1 p2 HX))] [(.int (p2.toInt8.toInt32)), (.ref b47), (.int (m0_280_l8 p0)), (.int (p1 &&& (7 : Int32))), (.int (8 : Int32)), (.ref b2)])) rfl (by rw [hml]; rfl) (argsL := [(.ref b2), (.int (8 : Int32)), (.int (p1 &&& (7 : Int32))), (.int (m0_280_l8 p0)), (.ref b47), (.int (p2.toInt8.toInt32))]) (rest := []) (lenOf pd_2 rfl) rfl (by show 2 * 0 + _ ≤ _; exact Nat.le_of_eq rfl) (hb hby at_486) (fun _ _ => ⟨rfl, eh204, (by decide : 2 + 0 ≤ _), (by decide : 20 + 0 ≤ _)⟩)
          dsimp only [Pt.U, Pt.locs, Pt.cells, Pt.slots] at X209 l209 y209 z209 st209 hQ209
          subst l209 y209 z209
          obtain ⟨rfl, N209q, eh209⟩ := hQ209
          have N209 := Fr.app N204 N209q
          have k210 : own_Go p e below (s₁.setTop (entryFrame m #[(.int p0), (.int p1), (.int p2)] maxLocals)) (T209.setTop (mkF m 489 #[.val (.int p0), .val (.int p1), .val (.int p2), .val (.int (v0_5 p0)), .val (.int (p1 &&& (7 : Int32))), .val (.int (p2.toInt8.toInt32)), .val (.ref b2), .val (.ref b47), .val (.int (m0_280_l8 p0)), .val (.int (v0_5 p0)), .val (.int (v0_288 p0 p1 p2 HX)), .val (.int (m0_431_s0 p0 p1 p2 HX))] [(.int (f3 (8 : Int32) (p1 &&& (7 : Int32)) (m0_280_l8 p0) (p2.toInt8.toInt32) (B0_esc p0 p1 p2 HX) (m0_280_b47 p0)))])) := fun t k => k208 t (st209 t k)
          by_cases hc489_211 : (f3 (8 : Int32) (p1 &&& (7 : Int32)) (m0_280_l8 p0) (p2.toInt8.toInt32) (B0_esc p0 p1 p2 HX) (m0_280_b47 p0)) = (0 : Int32)
          · have k212 : own_Go p e below (s₁.setTop (entryFrame m #[(.int p0), (.int p1), (.int p2)] maxLocals)) (T209.setTop (mkF m 497 #[.val (.int p0), .val (.int p1), .val (.int p2), .val (.int (v0_5 p0)), .val (.int (p1 &&& (7 : Int32))), .val (.int (p2.toInt8.toInt32)), .val (.ref b2), .val (.ref b47), .val (.int (m0_280_l8 p0)), .val (.int (v0_5 p0)), .val (.int (v0_288 p0 p1 p2 HX)), .val (.int (m0_431_s0 p0 p1 p2 HX))] [(.int (0 : Int32))])) := by
              intro t k
              refine k210 t ?_
              show Steps p.tables e below (T209.setTop (mkF m 489 #[.val (.int p0), .val (.int p1), .val (.int p2), .val (.int (v0_5 p0)), .val (.int (p1 &&& (7 : Int32))), .val (.int (p2.toInt8.toInt32)), .val (.ref b2), .val (.ref b47), .val (.int (m0_280_l8 p0)), .val (.int (v0_5 p0)), .val (.int (v0_288 p0 p1 p2 HX)), .val (.int (m0_431_s0 p0 p1 p2 HX))] [(.int (f3 (8 : Int32) (p1 &&& (7 : Int32)) (m0_280_l8 p0) (p2.toInt8.toInt32) (B0_esc p0 p1 p2 HX) (m0_280_b47 p0)))])) t
              refine XS.ifYes X209.here hx rfl (pc0 := 489) (pc' := 496) rfl (hb hby at_489) rfl ((if0 _ _).trans (teq hc489_211).1) (by decide) (by decide) ?_
              show Steps p.tables e below (T209.setTop (mkF m 496 #[.val (.int p0), .val (.int p1), .val (.int p2), .val (.int (v0_5 p0)), .val (.int (p1 &&& (7 : Int32))), .val (.int (p2.toInt8.toInt32)), .val (.ref b2), .val (.ref b47), .val (.int (m0_280_l8 p0)), .val (.int (v0_5 p0)), .val (.int (v0_288 p0 p1 p2 HX)), .val (.int (m0_431_s0 p0 p1 p2 HX))] [])) t
              refine XS.iconst X209.here hx rfl (hb hby at_496) ?_
              exact k
            exact ⟨_, _, X209, eh209, N209, (by rw [show (m0_497_s0 p0 p1 p2 HX) = (0 : Int32) from (by unfold m0_497_s0; rw [if_neg hc435_196, if_neg hc453_201, if_neg hc471_206, if_pos hc489_211])]; exact k212)⟩
          · have k213 : own_Go p e below (s₁.setTop (entryFrame m #[(.int p0), (.int p1), (.int p2)] maxLocals)) (T209.setTop (mkF m 497 #[.val (.int p0), .val (.int p1), .val (.int p2), .val (.int (v0_5 p0)), .val (.int (p1 &&& (7 : Int32))), .val (.int (p2.toInt8.toInt32)), .val (.ref b2), .val (.ref b47), .val (.int (m0_280_l8 p0)), .val (.int (v0_5 p0)), .val (.int (v0_288 p0 p1 p2 HX)), .val (.int (m0_431_s0 p0 p1 p2 HX))] [(.int (1 : Int32))])) := by
              intro t k
              refine k210 t ?_
              show Steps p.tables e below (T209.setTop (mkF m 489 #[.val (.int p0), .val (.int p1), .val (.int p2), .val (.int (v0_5 p0)), .val (.int (p1 &&& (7 : Int32))), .val (.int (p2.toInt8.toInt32)), .val (.ref b2), .val (.ref b47), .val (.int (m0_280_l8 p0)), .val (.int (v0_5 p0)), .val (.int (v0_288 p0 p1 p2 HX)), .val (.int (m0_431_s0 p0 p1 p2 HX))] [(.int (f3 (8 : Int32) (p1 &&& (7 : Int32)) (m0_280_l8 p0) (p2.toInt8.toInt32) (B0_esc p0 p1 p2 HX) (m0_280_b47 p0)))])) t
              refine XS.ifNo X209.here hx rfl (hb hby at_489) rfl ((if0 _ _).trans (feq hc489_211).1) ?_
              show Steps p.tables e below (T209.setTop (mkF m 492 #[.val (.int p0), .val (.int p1), .val (.int p2), .val (.int (v0_5 p0)), .val (.int (p1 &&& (7 : Int32))), .val (.int (p2.toInt8.toInt32)), .val (.ref b2), .val (.ref b47), .val (.int (m0_280_l8 p0)), .val (.int (v0_5 p0)), .val (.int (v0_288 p0 p1 p2 HX)), .val (.int (m0_431_s0 p0 p1 p2 HX))] [])) t
              refine XS.iconst X209.here hx rfl (hb hby at_492) ?_
              show Steps p.tables e below (T209.setTop (mkF m 493 #[.val (.int p0), .val (.int p1), .val (.int p2), .val (.int (v0_5 p0)), .val (.int (p1 &&& (7 : Int32))), .val (.int (p2.toInt8.toInt32)), .val (.ref b2), .val (.ref b47), .val (.int (m0_280_l8 p0)), .val (.int (v0_5 p0)), .val (.int (v0_288 p0 p1 p2 HX)), .val (.int (m0_431_s0 p0 p1 p2 HX))] [(.int (1 : Int32))])) t
              refine XS.goto X209.here hx rfl (pc0 := 493) (pc' := 497) rfl (hb hby at_493) (by decide) (by decide) ?_
              exact k
            exact ⟨_, _, X209, eh209, N209, (by rw [show (m0_497_s0 p0 p1 p2 HX) = (1 : Int32) from (by unfold m0_497_s0; rw [if_neg hc435_196, if_neg hc453_201, if_neg hc471_206, if_neg hc489_211])]; exact k213)⟩
  have k214 : own_Go p e below (s₁.setTop (entryFrame m #[(.int p0), (.int p1), (.int p2)] maxLocals)) (T195.setTop (mkF m 501 #[.val (.int p0), .val (.int p1), .val (.int p2), .val (.int (v0_5 p0)), .val (.int (p1 &&& (7 : Int32))), .val (.int (p2.toInt8.toInt32)), .val (.ref b2), .val (.ref b47), .val (.int (m0_280_l8 p0)), .val (.int (v0_5 p0)), .val (.int (v0_288 p0 p1 p2 HX)), .val (.int (m0_497_s0 p0 p1 p2 HX))] [(.int (m0_497_s0 p0 p1 p2 HX))])) := by
    intro t k
    refine k195 t ?_
    show Steps p.tables e below (T195.setTop (mkF m 497 #[.val (.int p0), .val (.int p1), .val (.int p2), .val (.int (v0_5 p0)), .val (.int (p1 &&& (7 : Int32))), .val (.int (p2.toInt8.toInt32)), .val (.ref b2), .val (.ref b47), .val (.int (m0_280_l8 p0)), .val (.int (v0_5 p0)), .val (.int (v0_288 p0 p1 p2 HX)), .val (.int (m0_431_s0 p0 p1 p2 HX))] [(.int (m0_497_s0 p0 p1 p2 HX))])) t
    refine XS.istore X195.here hx rfl (hb hby at_497) rfl (l' := #[.val (.int p0), .val (.int p1), .val (.int p2), .val (.int (v0_5 p0)), .val (.int (p1 &&& (7 : Int32))), .val (.int (p2.toInt8.toInt32)), .val (.ref b2), .val (.ref b47), .val (.int (m0_280_l8 p0)), .val (.int (v0_5 p0)), .val (.int (v0_288 p0 p1 p2 HX)), .val (.int (m0_497_s0 p0 p1 p2 HX))]) rfl ?_
    show Steps p.tables e below (T195.setTop (mkF m 499 #[.val (.int p0), .val (.int p1), .val (.int p2), .val (.int (v0_5 p0)), .val (.int (p1 &&& (7 : Int32))), .val (.int (p2.toInt8.toInt32)), .val (.ref b2), .val (.ref b47), .val (.int (m0_280_l8 p0)), .val (.int (v0_5 p0)), .val (.int (v0_288 p0 p1 p2 HX)), .val (.int (m0_497_s0 p0 p1 p2 HX))] [])) t
    refine XS.iload X195.here hx rfl (hb hby at_499) rfl ?_
    exact k
  obtain ⟨T215, L215, X215, e215, N215, k215⟩ : ∃ (T215 : State) (L215 : List Loc), Stand p l e room_1 s m #[(.int p0), (.int p1), (.int p2)] below meth c T215 L215 2 20 ∧ T215.heap = T147.heap ∧ Fr n0 L215 ∧ own_Go p e below (s₁.setTop (entryFrame m #[(.int p0), (.int p1), (.int p2)] maxLocals)) (T215.setTop (mkF m 563 #[.val (.int p0), .val (.int p1), .val (.int p2), .val (.int (v0_5 p0)), .val (.int (p1 &&& (7 : Int32))), .val (.int (p2.toInt8.toInt32)), .val (.ref b2), .val (.ref b47), .val (.int (m0_280_l8 p0)), .val (.int (v0_5 p0)), .val (.int (v0_288 p0 p1 p2 HX)), .val (.int (m0_497_s0 p0 p1 p2 HX))] [(.int (m0_563_s0 p0 p1 p2 HX))])) := by
    by_cases hc501_216 : (m0_497_s0 p0 p1 p2 HX) = (0 : Int32)
    · have k217 : own_Go p e below (s₁.setTop (entryFrame m #[(.int p0), (.int p1), (.int p2)] maxLocals)) (T195.setTop (mkF m 563 #[.val (.int p0), .val (.int p1), .val (.int p2), .val (.int (v0_5 p0)), .val (.int (p1 &&& (7 : Int32))), .val (.int (p2.toInt8.toInt32)), .val (.ref b2), .val (.ref b47), .val (.int (m0_280_l8 p0)), .val (.int (v0_5 p0)), .val (.int (v0_288 p0 p1 p2 HX)), .val (.int (m0_497_s0 p0 p1 p2 HX))] [(.int (0 : Int32))])) := by
        intro t k
        refine k214 t ?_
        show Steps p.tables e below (T195.setTop (mkF m 501 #[.val (.int p0), .val (.int p1), .val (.int p2), .val (.int (v0_5 p0)), .val (.int (p1 &&& (7 : Int32))), .val (.int (p2.toInt8.toInt32)), .val (.ref b2), .val (.ref b47), .val (.int (m0_280_l8 p0)), .val (.int (v0_5 p0)), .val (.int (v0_288 p0 p1 p2 HX)), .val (.int (m0_497_s0 p0 p1 p2 HX))] [(.int (m0_497_s0 p0 p1 p2 HX))])) t
        refine XS.ifYes X195.here hx rfl (pc0 := 501) (pc' := 562) rfl (hb hby at_501) rfl ((if0 _ _).trans (teq hc501_216).1) (by decide) (by decide) ?_
        show Steps p.tables e below (T195.setTop (mkF m 562 #[.val (.int p0), .val (.int p1), .val (.int p2), .val (.int (v0_5 p0)), .val (.int (p1 &&& (7 : Int32))), .val (.int (p2.toInt8.toInt32)), .val (.ref b2), .val (.ref b47), .val (.int (m0_280_l8 p0)), .val (.int (v0_5 p0)), .val (.int (v0_288 p0 p1 p2 HX)), .val (.int (m0_497_s0 p0 p1 p2 HX))] [])) t
        refine XS.iconst X195.here hx rfl (hb hby at_562) ?_
        exact k
      exact ⟨_, _, X195, e195, N195, (by rw [show (m0_563_s0 p0 p1 p2 HX) = (0 : Int32) from (by unfold m0_563_s0; rw [if_pos hc501_216])]; exact k217)⟩
    · have k218 : own_Go p e below (s₁.setTop (entryFrame m #[(.int p0), (.int p1), (.int p2)] maxLocals)) (T195.setTop (mkF m 516 #[.val (.int p0), .val (.int p1), .val (.int p2), .val (.int (v0_5 p0)), .val (.int (p1 &&& (7 : Int32))), .val (.int (p2.toInt8.toInt32)), .val (.ref b2), .val (.ref b47), .val (.int (m0_280_l8 p0)), .val (.int (v0_5 p0)), .val (.int (v0_288 p0 p1 p2 HX)), .val (.int (m0_497_s0 p0 p1 p2 HX))] [(.int (p2.toInt8.toInt32)), (.ref b47), (.int (m0_280_l8 p0)), (.int (p1 &&& (7 : Int32))), (.int (9 : Int32)), (.ref b2)])) := by
        intro t k
        refine k214 t ?_
        show Steps p.tables e below (T195.setTop (mkF m 501 #[.val (.int p0), .val (.int p1), .val (.int p2), .val (.int (v0_5 p0)), .val (.int (p1 &&& (7 : Int32))), .val (.int (p2.toInt8.toInt32)), .val (.ref b2), .val (.ref b47), .val (.int (m0_280_l8 p0)), .val (.int (v0_5 p0)), .val (.int (v0_288 p0 p1 p2 HX)), .val (.int (m0_497_s0 p0 p1 p2 HX))] [(.int (m0_497_s0 p0 p1 p2 HX))])) t
        refine XS.ifNo X195.here hx rfl (hb hby at_501) rfl ((if0 _ _).trans (feq hc501_216).1) ?_
        show Steps p.tables e below (T195.setTop (mkF m 504 #[.val (.int p0), .val (.int p1), .val (.int p2), .val (.int (v0_5 p0)), .val (.int (p1 &&& (7 : Int32))), .val (.int (p2.toInt8.toInt32)), .val (.ref b2), .val (.ref b47), .val (.int (m0_280_l8 p0)), .val (.int (v0_5 p0)), .val (.int (v0_288 p0 p1 p2 HX)), .val (.int (m0_497_s0 p0 p1 p2 HX))] [])) t
        refine XS.aload X195.here hx rfl (hb hby at_504) rfl rfl ?_
        show Steps p.tables e below (T195.setTop (mkF m 506 #[.val (.int p0), .val (.int p1), .val (.int p2), .val (.int (v0_5 p0)), .val (.int (p1 &&& (7 : Int32))), .val (.int (p2.toInt8.toInt32)), .val (.ref b2), .val (.ref b47), .val (.int (m0_280_l8 p0)), .val (.int (v0_5 p0)), .val (.int (v0_288 p0 p1 p2 HX)), .val (.int (m0_497_s0 p0 p1 p2 HX))] [(.ref b2)])) t
        refine XS.bipush X195.here hx rfl (hb hby at_506) ?_
        show Steps p.tables e below (T195.setTop (mkF m 508 #[.val (.int p0), .val (.int p1), .val (.int p2), .val (.int (v0_5 p0)), .val (.int (p1 &&& (7 : Int32))), .val (.int (p2.toInt8.toInt32)), .val (.ref b2), .val (.ref b47), .val (.int (m0_280_l8 p0)), .val (.int (v0_5 p0)), .val (.int (v0_288 p0 p1 p2 HX)), .val (.int (m0_497_s0 p0 p1 p2 HX))] [(.int (9 : Int32)), (.ref b2)])) t
        refine XS.iload X195.here hx rfl (hb hby at_508) rfl ?_
        show Steps p.tables e below (T195.setTop (mkF m 510 #[.val (.int p0), .val (.int p1), .val (.int p2), .val (.int (v0_5 p0)), .val (.int (p1 &&& (7 : Int32))), .val (.int (p2.toInt8.toInt32)), .val (.ref b2), .val (.ref b47), .val (.int (m0_280_l8 p0)), .val (.int (v0_5 p0)), .val (.int (v0_288 p0 p1 p2 HX)), .val (.int (m0_497_s0 p0 p1 p2 HX))] [(.int (p1 &&& (7 : Int32))), (.int (9 : Int32)), (.ref b2)])) t
        refine XS.iload X195.here hx rfl (hb hby at_510) rfl ?_
        show Steps p.tables e below (T195.setTop (mkF m 512 #[.val (.int p0), .val (.int p1), .val (.int p2), .val (.int (v0_5 p0)), .val (.int (p1 &&& (7 : Int32))), .val (.int (p2.toInt8.toInt32)), .val (.ref b2), .val (.ref b47), .val (.int (m0_280_l8 p0)), .val (.int (v0_5 p0)), .val (.int (v0_288 p0 p1 p2 HX)), .val (.int (m0_497_s0 p0 p1 p2 HX))] [(.int (m0_280_l8 p0)), (.int (p1 &&& (7 : Int32))), (.int (9 : Int32)), (.ref b2)])) t
        refine XS.aload X195.here hx rfl (hb hby at_512) rfl rfl ?_
        show Steps p.tables e below (T195.setTop (mkF m 514 #[.val (.int p0), .val (.int p1), .val (.int p2), .val (.int (v0_5 p0)), .val (.int (p1 &&& (7 : Int32))), .val (.int (p2.toInt8.toInt32)), .val (.ref b2), .val (.ref b47), .val (.int (m0_280_l8 p0)), .val (.int (v0_5 p0)), .val (.int (v0_288 p0 p1 p2 HX)), .val (.int (m0_497_s0 p0 p1 p2 HX))] [(.ref b47), (.int (m0_280_l8 p0)), (.int (p1 &&& (7 : Int32))), (.int (9 : Int32)), (.ref b2)])) t
        refine XS.iload X195.here hx rfl (hb hby at_514) rfl ?_
        exact k
      obtain ⟨_, _, ⟨T219, L219, kk219, n219⟩, -, X219, ⟨Lc219, hQ219, l219, y219, z219⟩, st219⟩ := Jvm.LawKit.callS X195 hx (y := (⟨"com/example/segmentry/segmentry/io/JsonTextEscapePinLaw", "ok", "([BIII[BB)Z"⟩ : MethodName)) hown (mvT hZ (hw _ (List.mem_of_getElem? (i := 12) rfl))) (mvT hZ (hw _ (List.mem_of_getElem? (i := 13) rfl))) (mvT hZ (hw _ (List.mem_of_getElem? (i := 4) rfl))) (mvT hZ (hw _ (List.mem_of_getElem? (i := 14) rfl))) (by decide) (backOf (W := 0) (rm3 l Z a0 hw [] b2 (9 : Int32) (p1 &&& (7 : Int32)) (m0_280_l8 p0) b47 (p2.toInt8.toInt32) (B0_esc p0 p1 p2 HX) (m0_280_b47 p0) T147.heap n0 (Nat.le_trans Zs50 Kq147.1) gB147' (c50_3.keep Kq147 (ninS (Ne.symm ne_50_b2_b47) nin0)) ⟨by decide, by decide⟩ (own_k6 _ _ _ (own_n6 p0))) hZ (hw _ (List.mem_of_getElem? (i := 14) rfl)) (hw _ (List.mem_of_getElem? (i := 4) rfl)) (by decide) (by decide)) (g := (mkF m 516 #[.val (.int p0), .val (.int p1), .val (.int p2), .val (.int (v0_5 p0)), .val (.int (p1 &&& (7 : Int32))), .val (.int (p2.toInt8.toInt32)), .val (.ref b2), .val (.ref b47), .val (.int (m0_280_l8 p0)), .val (.int (v0_5 p0)), .val (.int (v0_288 p0 p1 p2 HX)), .val (.int (m0_497_s0 p0 p1 p2 HX))] [(.int (p2.toInt8.toInt32)), (.ref b47), (.int (m0_280_l8 p0)), (.int (p1 &&& (7 : Int32))), (.int (9 : Int32)), (.ref b2)])) rfl (by rw [hml]; rfl) (argsL := [(.ref b2), (.int (9 : Int32)), (.int (p1 &&& (7 : Int32))), (.int (m0_280_l8 p0)), (.ref b47), (.int (p2.toInt8.toInt32))]) (rest := []) (lenOf pd_2 rfl) rfl (by show 2 * 0 + _ ≤ _; exact Nat.le_of_eq rfl) (hb hby at_516) (fun _ _ => ⟨rfl, e195, (by decide : 2 + 0 ≤ _), (by decide : 20 + 0 ≤ _)⟩)
      dsimp only [Pt.U, Pt.locs, Pt.cells, Pt.slots] at X219 l219 y219 z219 st219 hQ219
      subst l219 y219 z219
      obtain ⟨rfl, N219q, eh219⟩ := hQ219
      have N219 := Fr.app N195 N219q
      have k220 : own_Go p e below (s₁.setTop (entryFrame m #[(.int p0), (.int p1), (.int p2)] maxLocals)) (T219.setTop (mkF m 519 #[.val (.int p0), .val (.int p1), .val (.int p2), .val (.int (v0_5 p0)), .val (.int (p1 &&& (7 : Int32))), .val (.int (p2.toInt8.toInt32)), .val (.ref b2), .val (.ref b47), .val (.int (m0_280_l8 p0)), .val (.int (v0_5 p0)), .val (.int (v0_288 p0 p1 p2 HX)), .val (.int (m0_497_s0 p0 p1 p2 HX))] [(.int (f3 (9 : Int32) (p1 &&& (7 : Int32)) (m0_280_l8 p0) (p2.toInt8.toInt32) (B0_esc p0 p1 p2 HX) (m0_280_b47 p0)))])) := fun t k => k218 t (st219 t k)
      by_cases hc519_221 : (f3 (9 : Int32) (p1 &&& (7 : Int32)) (m0_280_l8 p0) (p2.toInt8.toInt32) (B0_esc p0 p1 p2 HX) (m0_280_b47 p0)) = (0 : Int32)
      · have k222 : own_Go p e below (s₁.setTop (entryFrame m #[(.int p0), (.int p1), (.int p2)] maxLocals)) (T219.setTop (mkF m 563 #[.val (.int p0), .val (.int p1), .val (.int p2), .val (.int (v0_5 p0)), .val (.int (p1 &&& (7 : Int32))), .val (.int (p2.toInt8.toInt32)), .val (.ref b2), .val (.ref b47), .val (.int (m0_280_l8 p0)), .val (.int (v0_5 p0)), .val (.int (v0_288 p0 p1 p2 HX)), .val (.int (m0_497_s0 p0 p1 p2 HX))] [(.int (0 : Int32))])) := by
          intro t k
          refine k220 t ?_
          show Steps p.tables e below (T219.setTop (mkF m 519 #[.val (.int p0), .val (.int p1), .val (.int p2), .val (.int (v0_5 p0)), .val (.int (p1 &&& (7 : Int32))), .val (.int (p2.toInt8.toInt32)), .val (.ref b2), .val (.ref b47), .val (.int (m0_280_l8 p0)), .val (.int (v0_5 p0)), .val (.int (v0_288 p0 p1 p2 HX)), .val (.int (m0_497_s0 p0 p1 p2 HX))] [(.int (f3 (9 : Int32) (p1 &&& (7 : Int32)) (m0_280_l8 p0) (p2.toInt8.toInt32) (B0_esc p0 p1 p2 HX) (m0_280_b47 p0)))])) t
          refine XS.ifYes X219.here hx rfl (pc0 := 519) (pc' := 562) rfl (hb hby at_519) rfl ((if0 _ _).trans (teq hc519_221).1) (by decide) (by decide) ?_
          show Steps p.tables e below (T219.setTop (mkF m 562 #[.val (.int p0), .val (.int p1), .val (.int p2), .val (.int (v0_5 p0)), .val (.int (p1 &&& (7 : Int32))), .val (.int (p2.toInt8.toInt32)), .val (.ref b2), .val (.ref b47), .val (.int (m0_280_l8 p0)), .val (.int (v0_5 p0)), .val (.int (v0_288 p0 p1 p2 HX)), .val (.int (m0_497_s0 p0 p1 p2 HX))] [])) t
          refine XS.iconst X219.here hx rfl (hb hby at_562) ?_
          exact k
        exact ⟨_, _, X219, eh219, N219, (by rw [show (m0_563_s0 p0 p1 p2 HX) = (0 : Int32) from (by unfold m0_563_s0; rw [if_neg hc501_216, if_pos hc519_221])]; exact k222)⟩
      · have k223 : own_Go p e below (s₁.setTop (entryFrame m #[(.int p0), (.int p1), (.int p2)] maxLocals)) (T219.setTop (mkF m 534 #[.val (.int p0), .val (.int p1), .val (.int p2), .val (.int (v0_5 p0)), .val (.int (p1 &&& (7 : Int32))), .val (.int (p2.toInt8.toInt32)), .val (.ref b2), .val (.ref b47), .val (.int (m0_280_l8 p0)), .val (.int (v0_5 p0)), .val (.int (v0_288 p0 p1 p2 HX)), .val (.int (m0_497_s0 p0 p1 p2 HX))] [(.int (p2.toInt8.toInt32)), (.ref b47), (.int (m0_280_l8 p0)), (.int (p1 &&& (7 : Int32))), (.int (10 : Int32)), (.ref b2)])) := by
          intro t k
          refine k220 t ?_
          show Steps p.tables e below (T219.setTop (mkF m 519 #[.val (.int p0), .val (.int p1), .val (.int p2), .val (.int (v0_5 p0)), .val (.int (p1 &&& (7 : Int32))), .val (.int (p2.toInt8.toInt32)), .val (.ref b2), .val (.ref b47), .val (.int (m0_280_l8 p0)), .val (.int (v0_5 p0)), .val (.int (v0_288 p0 p1 p2 HX)), .val (.int (m0_497_s0 p0 p1 p2 HX))] [(.int (f3 (9 : Int32) (p1 &&& (7 : Int32)) (m0_280_l8 p0) (p2.toInt8.toInt32) (B0_esc p0 p1 p2 HX) (m0_280_b47 p0)))])) t
          refine XS.ifNo X219.here hx rfl (hb hby at_519) rfl ((if0 _ _).trans (feq hc519_221).1) ?_
          show Steps p.tables e below (T219.setTop (mkF m 522 #[.val (.int p0), .val (.int p1), .val (.int p2), .val (.int (v0_5 p0)), .val (.int (p1 &&& (7 : Int32))), .val (.int (p2.toInt8.toInt32)), .val (.ref b2), .val (.ref b47), .val (.int (m0_280_l8 p0)), .val (.int (v0_5 p0)), .val (.int (v0_288 p0 p1 p2 HX)), .val (.int (m0_497_s0 p0 p1 p2 HX))] [])) t
          refine XS.aload X219.here hx rfl (hb hby at_522) rfl rfl ?_
          show Steps p.tables e below (T219.setTop (mkF m 524 #[.val (.int p0), .val (.int p1), .val (.int p2), .val (.int (v0_5 p0)), .val (.int (p1 &&& (7 : Int32))), .val (.int (p2.toInt8.toInt32)), .val (.ref b2), .val (.ref b47), .val (.int (m0_280_l8 p0)), .val (.int (v0_5 p0)), .val (.int (v0_288 p0 p1 p2 HX)), .val (.int (m0_497_s0 p0 p1 p2 HX))] [(.ref b2)])) t
          refine XS.bipush X219.here hx rfl (hb hby at_524) ?_
          show Steps p.tables e below (T219.setTop (mkF m 526 #[.val (.int p0), .val (.int p1), .val (.int p2), .val (.int (v0_5 p0)), .val (.int (p1 &&& (7 : Int32))), .val (.int (p2.toInt8.toInt32)), .val (.ref b2), .val (.ref b47), .val (.int (m0_280_l8 p0)), .val (.int (v0_5 p0)), .val (.int (v0_288 p0 p1 p2 HX)), .val (.int (m0_497_s0 p0 p1 p2 HX))] [(.int (10 : Int32)), (.ref b2)])) t
          refine XS.iload X219.here hx rfl (hb hby at_526) rfl ?_
          show Steps p.tables e below (T219.setTop (mkF m 528 #[.val (.int p0), .val (.int p1), .val (.int p2), .val (.int (v0_5 p0)), .val (.int (p1 &&& (7 : Int32))), .val (.int (p2.toInt8.toInt32)), .val (.ref b2), .val (.ref b47), .val (.int (m0_280_l8 p0)), .val (.int (v0_5 p0)), .val (.int (v0_288 p0 p1 p2 HX)), .val (.int (m0_497_s0 p0 p1 p2 HX))] [(.int (p1 &&& (7 : Int32))), (.int (10 : Int32)), (.ref b2)])) t
          refine XS.iload X219.here hx rfl (hb hby at_528) rfl ?_
          show Steps p.tables e below (T219.setTop (mkF m 530 #[.val (.int p0), .val (.int p1), .val (.int p2), .val (.int (v0_5 p0)), .val (.int (p1 &&& (7 : Int32))), .val (.int (p2.toInt8.toInt32)), .val (.ref b2), .val (.ref b47), .val (.int (m0_280_l8 p0)), .val (.int (v0_5 p0)), .val (.int (v0_288 p0 p1 p2 HX)), .val (.int (m0_497_s0 p0 p1 p2 HX))] [(.int (m0_280_l8 p0)), (.int (p1 &&& (7 : Int32))), (.int (10 : Int32)), (.ref b2)])) t
          refine XS.aload X219.here hx rfl (hb hby at_530) rfl rfl ?_
          show Steps p.tables e below (T219.setTop (mkF m 532 #[.val (.int p0), .val (.int p1), .val (.int p2), .val (.int (v0_5 p0)), .val (.int (p1 &&& (7 : Int32))), .val (.int (p2.toInt8.toInt32)), .val (.ref b2), .val (.ref b47), .val (.int (m0_280_l8 p0)), .val (.int (v0_5 p0)), .val (.int (v0_288 p0 p1 p2 HX)), .val (.int (m0_497_s0 p0 p1 p2 HX))] [(.ref b47), (.int (m0_280_l8 p0)), (.int (p1 &&& (7 : Int32))), (.int (10 : Int32)), (.ref b2)])) t
          refine XS.iload X219.here hx rfl (hb hby at_532) rfl ?_
          exact k
        obtain ⟨_, _, ⟨T224, L224, kk224, n224⟩, -, X224, ⟨Lc224, hQ224, l224, y224, z224⟩, st224⟩ := Jvm.LawKit.callS X219 hx (y := (⟨"com/example/segmentry/segmentry/io/JsonTextEscapePinLaw", "ok", "([BIII[BB)Z"⟩ : MethodName)) hown (mvT hZ (hw _ (List.mem_of_getElem? (i := 12) rfl))) (mvT hZ (hw _ (List.mem_of_getElem? (i := 13) rfl))) (mvT hZ (hw _ (List.mem_of_getElem? (i := 4) rfl))) (mvT hZ (hw _ (List.mem_of_getElem? (i := 14) rfl))) (by decide) (backOf (W := 0) (rm3 l Z a0 hw [] b2 (10 : Int32) (p1 &&& (7 : Int32)) (m0_280_l8 p0) b47 (p2.toInt8.toInt32) (B0_esc p0 p1 p2 HX) (m0_280_b47 p0) T147.heap n0 (Nat.le_trans Zs50 Kq147.1) gB147' (c50_3.keep Kq147 (ninS (Ne.symm ne_50_b2_b47) nin0)) ⟨by decide, by decide⟩ (own_k6 _ _ _ (own_n6 p0))) hZ (hw _ (List.mem_of_getElem? (i := 14) rfl)) (hw _ (List.mem_of_getElem? (i := 4) rfl)) (by decide) (by decide)) (g := (mkF m 534 #[.val (.int p0), .val (.int p1), .val (.int p2), .val (.int (v0_5 p0)), .val (.int (p1 &&& (7 : Int32))), .val (.int (p2.toInt8.toInt32)), .val (.ref b2), .val (.ref b47), .val (.int (m0_280_l8 p0)), .val (.int (v0_5 p0)), .val (.int (v0_288 p0 p1 p2 HX)), .val (.int (m0_497_s0 p0 p1 p2 HX))] [(.int (p2.toInt8.toInt32)), (.ref b47), (.int (m0_280_l8 p0)), (.int (p1 &&& (7 : Int32))), (.int (10 : Int32)), (.ref b2)])) rfl (by rw [hml]; rfl) (argsL := [(.ref b2), (.int (10 : Int32)), (.int (p1 &&& (7 : Int32))), (.int (m0_280_l8 p0)), (.ref b47), (.int (p2.toInt8.toInt32))]) (rest := []) (lenOf pd_2 rfl) rfl (by show 2 * 0 + _ ≤ _; exact Nat.le_of_eq rfl) (hb hby at_534) (fun _ _ => ⟨rfl, eh219, (by decide : 2 + 0 ≤ _), (by decide : 20 + 0 ≤ _)⟩)
        dsimp only [Pt.U, Pt.locs, Pt.cells, Pt.slots] at X224 l224 y224 z224 st224 hQ224
        subst l224 y224 z224
        obtain ⟨rfl, N224q, eh224⟩ := hQ224
        have N224 := Fr.app N219 N224q
        have k225 : own_Go p e below (s₁.setTop (entryFrame m #[(.int p0), (.int p1), (.int p2)] maxLocals)) (T224.setTop (mkF m 537 #[.val (.int p0), .val (.int p1), .val (.int p2), .val (.int (v0_5 p0)), .val (.int (p1 &&& (7 : Int32))), .val (.int (p2.toInt8.toInt32)), .val (.ref b2), .val (.ref b47), .val (.int (m0_280_l8 p0)), .val (.int (v0_5 p0)), .val (.int (v0_288 p0 p1 p2 HX)), .val (.int (m0_497_s0 p0 p1 p2 HX))] [(.int (f3 (10 : Int32) (p1 &&& (7 : Int32)) (m0_280_l8 p0) (p2.toInt8.toInt32) (B0_esc p0 p1 p2 HX) (m0_280_b47 p0)))])) := fun t k => k223 t (st224 t k)
        by_cases hc537_226 : (f3 (10 : Int32) (p1 &&& (7 : Int32)) (m0_280_l8 p0) (p2.toInt8.toInt32) (B0_esc p0 p1 p2 HX) (m0_280_b47 p0)) = (0 : Int32)
        · have k227 : own_Go p e below (s₁.setTop (entryFrame m #[(.int p0), (.int p1), (.int p2)] maxLocals)) (T224.setTop (mkF m 563 #[.val (.int p0), .val (.int p1), .val (.int p2), .val (.int (v0_5 p0)), .val (.int (p1 &&& (7 : Int32))), .val (.int (p2.toInt8.toInt32)), .val (.ref b2), .val (.ref b47), .val (.int (m0_280_l8 p0)), .val (.int (v0_5 p0)), .val (.int (v0_288 p0 p1 p2 HX)), .val (.int (m0_497_s0 p0 p1 p2 HX))] [(.int (0 : Int32))])) := by
            intro t k
            refine k225 t ?_
            show Steps p.tables e below (T224.setTop (mkF m 537 #[.val (.int p0), .val (.int p1), .val (.int p2), .val (.int (v0_5 p0)), .val (.int (p1 &&& (7 : Int32))), .val (.int (p2.toInt8.toInt32)), .val (.ref b2), .val (.ref b47), .val (.int (m0_280_l8 p0)), .val (.int (v0_5 p0)), .val (.int (v0_288 p0 p1 p2 HX)), .val (.int (m0_497_s0 p0 p1 p2 HX))] [(.int (f3 (10 : Int32) (p1 &&& (7 : Int32)) (m0_280_l8 p0) (p2.toInt8.toInt32) (B0_esc p0 p1 p2 HX) (m0_280_b47 p0)))])) t
            refine XS.ifYes X224.here hx rfl (pc0 := 537) (pc' := 562) rfl (hb hby at_537) rfl ((if0 _ _).trans (teq hc537_226).1) (by decide) (by decide) ?_
            show Steps p.tables e below (T224.setTop (mkF m 562 #[.val (.int p0), .val (.int p1), .val (.int p2), .val (.int (v0_5 p0)), .val (.int (p1 &&& (7 : Int32))), .val (.int (p2.toInt8.toInt32)), .val (.ref b2), .val (.ref b47), .val (.int (m0_280_l8 p0)), .val (.int (v0_5 p0)), .val (.int (v0_288 p0 p1 p2 HX)), .val (.int (m0_497_s0 p0 p1 p2 HX))] [])) t
            refine XS.iconst X224.here hx rfl (hb hby at_562) ?_
            exact k
          exact ⟨_, _, X224, eh224, N224, (by rw [show (m0_563_s0 p0 p1 p2 HX) = (0 : Int32) from (by unfold m0_563_s0; rw [if_neg hc501_216, if_neg hc519_221, if_pos hc537_226])]; exact k227)⟩
        · have k228 : own_Go p e below (s₁.setTop (entryFrame m #[(.int p0), (.int p1), (.int p2)] maxLocals)) (T224.setTop (mkF m 552 #[.val (.int p0), .val (.int p1), .val (.int p2), .val (.int (v0_5 p0)), .val (.int (p1 &&& (7 : Int32))), .val (.int (p2.toInt8.toInt32)), .val (.ref b2), .val (.ref b47), .val (.int (m0_280_l8 p0)), .val (.int (v0_5 p0)), .val (.int (v0_288 p0 p1 p2 HX)), .val (.int (m0_497_s0 p0 p1 p2 HX))] [(.int (p2.toInt8.toInt32)), (.ref b47), (.int (m0_280_l8 p0)), (.int (p1 &&& (7 : Int32))), (.int (11 : Int32)), (.ref b2)])) := by
            intro t k
            refine k225 t ?_
            show Steps p.tables e below (T224.setTop (mkF m 537 #[.val (.int p0), .val (.int p1), .val (.int p2), .val (.int (v0_5 p0)), .val (.int (p1 &&& (7 : Int32))), .val (.int (p2.toInt8.toInt32)), .val (.ref b2), .val (.ref b47), .val (.int (m0_280_l8 p0)), .val (.int (v0_5 p0)), .val (.int (v0_288 p0 p1 p2 HX)), .val (.int (m0_497_s0 p0 p1 p2 HX))] [(.int (f3 (10 : Int32) (p1 &&& (7 : Int32)) (m0_280_l8 p0) (p2.toInt8.toInt32) (B0_esc p0 p1 p2 HX) (m0_280_b47 p0)))])) t
            refine XS.ifNo X224.here hx rfl (hb hby at_537) rfl ((if0 _ _).trans (feq hc537_226).1) ?_
            show Steps p.tables e below (T224.setTop (mkF m 540 #[.val (.int p0), .val (.int p1), .val (.int p2), .val (.int (v0_5 p0)), .val (.int (p1 &&& (7 : Int32))), .val (.int (p2.toInt8.toInt32)), .val (.ref b2), .val (.ref b47), .val (.int (m0_280_l8 p0)), .val (.int (v0_5 p0)), .val (.int (v0_288 p0 p1 p2 HX)), .val (.int (m0_497_s0 p0 p1 p2 HX))] [])) t
            refine XS.aload X224.here hx rfl (hb hby at_540) rfl rfl ?_
            show Steps p.tables e below (T224.setTop (mkF m 542 #[.val (.int p0), .val (.int p1), .val (.int p2), .val (.int (v0_5 p0)), .val (.int (p1 &&& (7 : Int32))), .val (.int (p2.toInt8.toInt32)), .val (.ref b2), .val (.ref b47), .val (.int (m0_280_l8 p0)), .val (.int (v0_5 p0)), .val (.int (v0_288 p0 p1 p2 HX)), .val (.int (m0_497_s0 p0 p1 p2 HX))] [(.ref b2)])) t
            refine XS.bipush X224.here hx rfl (hb hby at_542) ?_
            show Steps p.tables e below (T224.setTop (mkF m 544 #[.val (.int p0), .val (.int p1), .val (.int p2), .val (.int (v0_5 p0)), .val (.int (p1 &&& (7 : Int32))), .val (.int (p2.toInt8.toInt32)), .val (.ref b2), .val (.ref b47), .val (.int (m0_280_l8 p0)), .val (.int (v0_5 p0)), .val (.int (v0_288 p0 p1 p2 HX)), .val (.int (m0_497_s0 p0 p1 p2 HX))] [(.int (11 : Int32)), (.ref b2)])) t
            refine XS.iload X224.here hx rfl (hb hby at_544) rfl ?_
            show Steps p.tables e below (T224.setTop (mkF m 546 #[.val (.int p0), .val (.int p1), .val (.int p2), .val (.int (v0_5 p0)), .val (.int (p1 &&& (7 : Int32))), .val (.int (p2.toInt8.toInt32)), .val (.ref b2), .val (.ref b47), .val (.int (m0_280_l8 p0)), .val (.int (v0_5 p0)), .val (.int (v0_288 p0 p1 p2 HX)), .val (.int (m0_497_s0 p0 p1 p2 HX))] [(.int (p1 &&& (7 : Int32))), (.int (11 : Int32)), (.ref b2)])) t
            refine XS.iload X224.here hx rfl (hb hby at_546) rfl ?_
            show Steps p.tables e below (T224.setTop (mkF m 548 #[.val (.int p0), .val (.int p1), .val (.int p2), .val (.int (v0_5 p0)), .val (.int (p1 &&& (7 : Int32))), .val (.int (p2.toInt8.toInt32)), .val (.ref b2), .val (.ref b47), .val (.int (m0_280_l8 p0)), .val (.int (v0_5 p0)), .val (.int (v0_288 p0 p1 p2 HX)), .val (.int (m0_497_s0 p0 p1 p2 HX))] [(.int (m0_280_l8 p0)), (.int (p1 &&& (7 : Int32))), (.int (11 : Int32)), (.ref b2)])) t
            refine XS.aload X224.here hx rfl (hb hby at_548) rfl rfl ?_
            show Steps p.tables e below (T224.setTop (mkF m 550 #[.val (.int p0), .val (.int p1), .val (.int p2), .val (.int (v0_5 p0)), .val (.int (p1 &&& (7 : Int32))), .val (.int (p2.toInt8.toInt32)), .val (.ref b2), .val (.ref b47), .val (.int (m0_280_l8 p0)), .val (.int (v0_5 p0)), .val (.int (v0_288 p0 p1 p2 HX)), .val (.int (m0_497_s0 p0 p1 p2 HX))] [(.ref b47), (.int (m0_280_l8 p0)), (.int (p1 &&& (7 : Int32))), (.int (11 : Int32)), (.ref b2)])) t
            refine XS.iload X224.here hx rfl (hb hby at_550) rfl ?_
            exact k
          obtain ⟨_, _, ⟨T229, L229, kk229, n229⟩, -, X229, ⟨Lc229, hQ229, l229, y229, z229⟩, st229⟩ := Jvm.LawKit.callS X224 hx (y := (⟨"com/example/segmentry/segmentry/io/JsonTextEscapePinLaw", "ok", "([BIII[BB)Z"⟩ : MethodName)) hown (mvT hZ (hw _ (List.mem_of_getElem? (i := 12) rfl))) (mvT hZ (hw _ (List.mem_of_getElem? (i := 13) rfl))) (mvT hZ (hw _ (List.mem_of_getElem? (i := 4) rfl))) (mvT hZ (hw _ (List.mem_of_getElem? (i := 14) rfl))) (by decide) (backOf (W := 0) (rm3 l Z a0 hw [] b2 (11 : Int32) (p1 &&& (7 : Int32)) (m0_280_l8 p0) b47 (p2.toInt8.toInt32) (B0_esc p0 p1 p2 HX) (m0_280_b47 p0) T147.heap n0 (Nat.le_trans Zs50 Kq147.1) gB147' (c50_3.keep Kq147 (ninS (Ne.symm ne_50_b2_b47) nin0)) ⟨by decide, by decide⟩ (own_k6 _ _ _ (own_n6 p0))) hZ (hw _ (List.mem_of_getElem? (i := 14) rfl)) (hw _ (List.mem_of_getElem? (i := 4) rfl)) (by decide) (by decide)) (g := (mkF m 552 #[.val (.int p0), .val (.int p1), .val (.int p2), .val (.int (v0_5 p0)), .val (.int (p1 &&& (7 : Int32))), .val (.int (p2.toInt8.toInt32)), .val (.ref b2), .val (.ref b47), .val (.int (m0_280_l8 p0)), .val (.int (v0_5 p0)), .val (.int (v0_288 p0 p1 p2 HX)), .val (.int (m0_497_s0 p0 p1 p2 HX))] [(.int (p2.toInt8.toInt32)), (.ref b47), (.int (m0_280_l8 p0)), (.int (p1 &&& (7 : Int32))), (.int (11 : Int32)), (.ref b2)])) rfl (by rw [hml]; rfl) (argsL := [(.ref b2), (.int (11 : Int32)), (.int (p1 &&& (7 : Int32))), (.int (m0_280_l8 p0)), (.ref b47), (.int (p2.toInt8.toInt32))]) (rest := []) (lenOf pd_2 rfl) rfl (by show 2 * 0 + _ ≤ _; exact Nat.le_of_eq rfl) (hb hby at_552) (fun _ _ => ⟨rfl, eh224, (by decide : 2 + 0 ≤ _), (by decide : 20 + 0 ≤ _)⟩)
          dsimp only [Pt.U, Pt.locs, Pt.cells, Pt.slots] at X229 l229 y229 z229 st229 hQ229
          subst l229 y229 z229
          obtain ⟨rfl, N229q, eh229⟩ := hQ229
          have N229 := Fr.app N224 N229q
          have k230 : own_Go p e below (s₁.setTop (entryFrame m #[(.int p0), (.int p1), (.int p2)] maxLocals)) (T229.setTop (mkF m 555 #[.val (.int p0), .val (.int p1), .val (.int p2), .val (.int (v0_5 p0)), .val (.int (p1 &&& (7 : Int32))), .val (.int (p2.toInt8.toInt32)), .val (.ref b2), .val (.ref b47), .val (.int (m0_280_l8 p0)), .val (.int (v0_5 p0)), .val (.int (v0_288 p0 p1 p2 HX)), .val (.int (m0_497_s0 p0 p1 p2 HX))] [(.int (f3 (11 : Int32) (p1 &&& (7 : Int32)) (m0_280_l8 p0) (p2.toInt8.toInt32) (B0_esc p0 p1 p2 HX) (m0_280_b47 p0)))])) := fun t k => k228 t (st229 t k)
          by_cases hc555_231 : (f3 (11 : Int32) (p1 &&& (7 : Int32)) (m0_280_l8 p0) (p2.toInt8.toInt32) (B0_esc p0 p1 p2 HX) (m0_280_b47 p0)) = (0 : Int32)
          · have k232 : own_Go p e below (s₁.setTop (entryFrame m #[(.int p0), (.int p1), (.int p2)] maxLocals)) (T229.setTop (mkF m 563 #[.val (.int p0), .val (.int p1), .val (.int p2), .val (.int (v0_5 p0)), .val (.int (p1 &&& (7 : Int32))), .val (.int (p2.toInt8.toInt32)), .val (.ref b2), .val (.ref b47), .val (.int (m0_280_l8 p0)), .val (.int (v0_5 p0)), .val (.int (v0_288 p0 p1 p2 HX)), .val (.int (m0_497_s0 p0 p1 p2 HX))] [(.int (0 : Int32))])) := by
              intro t k
              refine k230 t ?_
              show Steps p.tables e below (T229.setTop (mkF m 555 #[.val (.int p0), .val (.int p1), .val (.int p2), .val (.int (v0_5 p0)), .val (.int (p1 &&& (7 : Int32))), .val (.int (p2.toInt8.toInt32)), .val (.ref b2), .val (.ref b47), .val (.int (m0_280_l8 p0)), .val (.int (v0_5 p0)), .val (.int (v0_288 p0 p1 p2 HX)), .val (.int (m0_497_s0 p0 p1 p2 HX))] [(.int (f3 (11 : Int32) (p1 &&& (7 : Int32)) (m0_280_l8 p0) (p2.toInt8.toInt32) (B0_esc p0 p1 p2 HX) (m0_280_b47 p0)))])) t
              refine XS.ifYes X229.here hx rfl (pc0 := 555) (pc' := 562) rfl (hb hby at_555) rfl ((if0 _ _).trans (teq hc555_231).1) (by decide) (by decide) ?_
              show Steps p.tables e below (T229.setTop (mkF m 562 #[.val (.int p0), .val (.int p1), .val (.int p2), .val (.int (v0_5 p0)), .val (.int (p1 &&& (7 : Int32))), .val (.int (p2.toInt8.toInt32)), .val (.ref b2), .val (.ref b47), .val (.int (m0_280_l8 p0)), .val (.int (v0_5 p0)), .val (.int (v0_288 p0 p1 p2 HX)), .val (.int (m0_497_s0 p0 p1 p2 HX))] [])) t
              refine XS.iconst X229.here hx rfl (hb hby at_562) ?_
              exact k
            exact ⟨_, _, X229, eh229, N229, (by rw [show (m0_563_s0 p0 p1 p2 HX) = (0 : Int32) from (by unfold m0_563_s0; rw [if_neg hc501_216, if_neg hc519_221, if_neg hc537_226, if_pos hc555_231])]; exact k232)⟩
          · have k233 : own_Go p e below (s₁.setTop (entryFrame m #[(.int p0), (.int p1), (.int p2)] maxLocals)) (T229.setTop (mkF m 563 #[.val (.int p0), .val (.int p1), .val (.int p2), .val (.int (v0_5 p0)), .val (.int (p1 &&& (7 : Int32))), .val (.int (p2.toInt8.toInt32)), .val (.ref b2), .val (.ref b47), .val (.int (m0_280_l8 p0)), .val (.int (v0_5 p0)), .val (.int (v0_288 p0 p1 p2 HX)), .val (.int (m0_497_s0 p0 p1 p2 HX))] [(.int (1 : Int32))])) := by
              intro t k
              refine k230 t ?_
              show Steps p.tables e below (T229.setTop (mkF m 555 #[.val (.int p0), .val (.int p1), .val (.int p2), .val (.int (v0_5 p0)), .val (.int (p1 &&& (7 : Int32))), .val (.int (p2.toInt8.toInt32)), .val (.ref b2), .val (.ref b47), .val (.int (m0_280_l8 p0)), .val (.int (v0_5 p0)), .val (.int (v0_288 p0 p1 p2 HX)), .val (.int (m0_497_s0 p0 p1 p2 HX))] [(.int (f3 (11 : Int32) (p1 &&& (7 : Int32)) (m0_280_l8 p0) (p2.toInt8.toInt32) (B0_esc p0 p1 p2 HX) (m0_280_b47 p0)))])) t
              refine XS.ifNo X229.here hx rfl (hb hby at_555) rfl ((if0 _ _).trans (feq hc555_231).1) ?_
              show Steps p.tables e below (T229.setTop (mkF m 558 #[.val (.int p0), .val (.int p1), .val (.int p2), .val (.int (v0_5 p0)), .val (.int (p1 &&& (7 : Int32))), .val (.int (p2.toInt8.toInt32)), .val (.ref b2), .val (.ref b47), .val (.int (m0_280_l8 p0)), .val (.int (v0_5 p0)), .val (.int (v0_288 p0 p1 p2 HX)), .val (.int (m0_497_s0 p0 p1 p2 HX))] [])) t
              refine XS.iconst X229.here hx rfl (hb hby at_558) ?_
              show Steps p.tables e below (T229.setTop (mkF m 559 #[.val (.int p0), .val (.int p1), .val (.int p2), .val (.int (v0_5 p0)), .val (.int (p1 &&& (7 : Int32))), .val (.int (p2.toInt8.toInt32)), .val (.ref b2), .val (.ref b47), .val (.int (m0_280_l8 p0)), .val (.int (v0_5 p0)), .val (.int (v0_288 p0 p1 p2 HX)), .val (.int (m0_497_s0 p0 p1 p2 HX))] [(.int (1 : Int32))])) t
              refine XS.goto X229.here hx rfl (pc0 := 559) (pc' := 563) rfl (hb hby at_559) (by decide) (by decide) ?_
              exact k
            exact ⟨_, _, X229, eh229, N229, (by rw [show (m0_563_s0 p0 p1 p2 HX) = (1 : Int32) from (by unfold m0_563_s0; rw [if_neg hc501_216, if_neg hc519_221, if_neg hc537_226, if_neg hc555_231])]; exact k233)⟩
  have k234 : own_Go p e below (s₁.setTop (entryFrame m #[(.int p0), (.int p1), (.int p2)] maxLocals)) (T215.setTop (mkF m 567 #[.val (.int p0), .val (.int p1), .val (.int p2), .val (.int (v0_5 p0)), .val (.int (p1 &&& (7 : Int32))), .val (.int (p2.toInt8.toInt32)), .val (.ref b2), .val (.ref b47), .val (.int (m0_280_l8 p0)), .val (.int (v0_5 p0)), .val (.int (v0_288 p0 p1 p2 HX)), .val (.int (m0_563_s0 p0 p1 p2 HX))] [(.int (m0_563_s0 p0 p1 p2 HX))])) := by
    intro t k
    refine k215 t ?_
    show Steps p.tables e below (T215.setTop (mkF m 563 #[.val (.int p0), .val (.int p1), .val (.int p2), .val (.int (v0_5 p0)), .val (.int (p1 &&& (7 : Int32))), .val (.int (p2.toInt8.toInt32)), .val (.ref b2), .val (.ref b47), .val (.int (m0_280_l8 p0)), .val (.int (v0_5 p0)), .val (.int (v0_288 p0 p1 p2 HX)), .val (.int (m0_497_s0 p0 p1 p2 HX))] [(.int (m0_563_s0 p0 p1 p2 HX))])) t
    refine XS.istore X215.here hx rfl (hb hby at_563) rfl (l' := #[.val (.int p0), .val (.int p1), .val (.int p2), .val (.int (v0_5 p0)), .val (.int (p1 &&& (7 : Int32))), .val (.int (p2.toInt8.toInt32)), .val (.ref b2), .val (.ref b47), .val (.int (m0_280_l8 p0)), .val (.int (v0_5 p0)), .val (.int (v0_288 p0 p1 p2 HX)), .val (.int (m0_563_s0 p0 p1 p2 HX))]) rfl ?_
    show Steps p.tables e below (T215.setTop (mkF m 565 #[.val (.int p0), .val (.int p1), .val (.int p2), .val (.int (v0_5 p0)), .val (.int (p1 &&& (7 : Int32))), .val (.int (p2.toInt8.toInt32)), .val (.ref b2), .val (.ref b47), .val (.int (m0_280_l8 p0)), .val (.int (v0_5 p0)), .val (.int (v0_288 p0 p1 p2 HX)), .val (.int (m0_563_s0 p0 p1 p2 HX))] [])) t
    refine XS.iload X215.here hx rfl (hb hby at_565) rfl ?_
    exact k
  obtain ⟨T235, L235, X235, e235, N235, k235⟩ : ∃ (T235 : State) (L235 : List Loc), Stand p l e room_1 s m #[(.int p0), (.int p1), (.int p2)] below meth c T235 L235 2 20 ∧ T235.heap = T147.heap ∧ Fr n0 L235 ∧ own_Go p e below (s₁.setTop (entryFrame m #[(.int p0), (.int p1), (.int p2)] maxLocals)) (T235.setTop (mkF m 611 #[.val (.int p0), .val (.int p1), .val (.int p2), .val (.int (v0_5 p0)), .val (.int (p1 &&& (7 : Int32))), .val (.int (p2.toInt8.toInt32)), .val (.ref b2), .val (.ref b47), .val (.int (m0_280_l8 p0)), .val (.int (v0_5 p0)), .val (.int (v0_288 p0 p1 p2 HX)), .val (.int (m0_563_s0 p0 p1 p2 HX))] [(.int (m0_611_s0 p0 p1 p2 HX))])) := by
    by_cases hc567_236 : (m0_563_s0 p0 p1 p2 HX) = (0 : Int32)
    · have k237 : own_Go p e below (s₁.setTop (entryFrame m #[(.int p0), (.int p1), (.int p2)] maxLocals)) (T215.setTop (mkF m 611 #[.val (.int p0), .val (.int p1), .val (.int p2), .val (.int (v0_5 p0)), .val (.int (p1 &&& (7 : Int32))), .val (.int (p2.toInt8.toInt32)), .val (.ref b2), .val (.ref b47), .val (.int (m0_280_l8 p0)), .val (.int (v0_5 p0)), .val (.int (v0_288 p0 p1 p2 HX)), .val (.int (m0_563_s0 p0 p1 p2 HX))] [(.int (0 : Int32))])) := by
        intro t k
        refine k234 t ?_
        show Steps p.tables e below (T215.setTop (mkF m 567 #[.val (.int p0), .val (.int p1), .val (.int p2), .val (.int (v0_5 p0)), .val (.int (p1 &&& (7 : Int32))), .val (.int (p2.toInt8.toInt32)), .val (.ref b2), .val (.ref b47), .val (.int (m0_280_l8 p0)), .val (.int (v0_5 p0)), .val (.int (v0_288 p0 p1 p2 HX)), .val (.int (m0_563_s0 p0 p1 p2 HX))] [(.int (m0_563_s0 p0 p1 p2 HX))])) t
        refine XS.ifYes X215.here hx rfl (pc0 := 567) (pc' := 610) rfl (hb hby at_567) rfl ((if0 _ _).trans (teq hc567_236).1) (by decide) (by decide) ?_
        show Steps p.tables e below (T215.setTop (mkF m 610 #[.val (.int p0), .val (.int p1), .val (.int p2), .val (.int (v0_5 p0)), .val (.int (p1 &&& (7 : Int32))), .val (.int (p2.toInt8.toInt32)), .val (.ref b2), .val (.ref b47), .val (.int (m0_280_l8 p0)), .val (.int (v0_5 p0)), .val (.int (v0_288 p0 p1 p2 HX)), .val (.int (m0_563_s0 p0 p1 p2 HX))] [])) t
        refine XS.iconst X215.here hx rfl (hb hby at_610) ?_
        exact k
      exact ⟨_, _, X215, e215, N215, (by rw [show (m0_611_s0 p0 p1 p2 HX) = (0 : Int32) from (by unfold m0_611_s0; rw [if_pos hc567_236])]; exact k237)⟩
    · have k238 : own_Go p e below (s₁.setTop (entryFrame m #[(.int p0), (.int p1), (.int p2)] maxLocals)) (T215.setTop (mkF m 582 #[.val (.int p0), .val (.int p1), .val (.int p2), .val (.int (v0_5 p0)), .val (.int (p1 &&& (7 : Int32))), .val (.int (p2.toInt8.toInt32)), .val (.ref b2), .val (.ref b47), .val (.int (m0_280_l8 p0)), .val (.int (v0_5 p0)), .val (.int (v0_288 p0 p1 p2 HX)), .val (.int (m0_563_s0 p0 p1 p2 HX))] [(.int (p2.toInt8.toInt32)), (.ref b47), (.int (m0_280_l8 p0)), (.int (p1 &&& (7 : Int32))), (.int (12 : Int32)), (.ref b2)])) := by
        intro t k
        refine k234 t ?_
        show Steps p.tables e below (T215.setTop (mkF m 567 #[.val (.int p0), .val (.int p1), .val (.int p2), .val (.int (v0_5 p0)), .val (.int (p1 &&& (7 : Int32))), .val (.int (p2.toInt8.toInt32)), .val (.ref b2), .val (.ref b47), .val (.int (m0_280_l8 p0)), .val (.int (v0_5 p0)), .val (.int (v0_288 p0 p1 p2 HX)), .val (.int (m0_563_s0 p0 p1 p2 HX))] [(.int (m0_563_s0 p0 p1 p2 HX))])) t
        refine XS.ifNo X215.here hx rfl (hb hby at_567) rfl ((if0 _ _).trans (feq hc567_236).1) ?_
        show Steps p.tables e below (T215.setTop (mkF m 570 #[.val (.int p0), .val (.int p1), .val (.int p2), .val (.int (v0_5 p0)), .val (.int (p1 &&& (7 : Int32))), .val (.int (p2.toInt8.toInt32)), .val (.ref b2), .val (.ref b47), .val (.int (m0_280_l8 p0)), .val (.int (v0_5 p0)), .val (.int (v0_288 p0 p1 p2 HX)), .val (.int (m0_563_s0 p0 p1 p2 HX))] [])) t
        refine XS.aload X215.here hx rfl (hb hby at_570) rfl rfl ?_
        show Steps p.tables e below (T215.setTop (mkF m 572 #[.val (.int p0), .val (.int p1), .val (.int p2), .val (.int (v0_5 p0)), .val (.int (p1 &&& (7 : Int32))), .val (.int (p2.toInt8.toInt32)), .val (.ref b2), .val (.ref b47), .val (.int (m0_280_l8 p0)), .val (.int (v0_5 p0)), .val (.int (v0_288 p0 p1 p2 HX)), .val (.int (m0_563_s0 p0 p1 p2 HX))] [(.ref b2)])) t
        refine XS.bipush X215.here hx rfl (hb hby at_572) ?_
        show Steps p.tables e below (T215.setTop (mkF m 574 #[.val (.int p0), .val (.int p1), .val (.int p2), .val (.int (v0_5 p0)), .val (.int (p1 &&& (7 : Int32))), .val (.int (p2.toInt8.toInt32)), .val (.ref b2), .val (.ref b47), .val (.int (m0_280_l8 p0)), .val (.int (v0_5 p0)), .val (.int (v0_288 p0 p1 p2 HX)), .val (.int (m0_563_s0 p0 p1 p2 HX))] [(.int (12 : Int32)), (.ref b2)])) t
        refine XS.iload X215.here hx rfl (hb hby at_574) rfl ?_
        show Steps p.tables e below (T215.setTop (mkF m 576 #[.val (.int p0), .val (.int p1), .val (.int p2), .val (.int (v0_5 p0)), .val (.int (p1 &&& (7 : Int32))), .val (.int (p2.toInt8.toInt32)), .val (.ref b2), .val (.ref b47), .val (.int (m0_280_l8 p0)), .val (.int (v0_5 p0)), .val (.int (v0_288 p0 p1 p2 HX)), .val (.int (m0_563_s0 p0 p1 p2 HX))] [(.int (p1 &&& (7 : Int32))), (.int (12 : Int32)), (.ref b2)])) t
        refine XS.iload X215.here hx rfl (hb hby at_576) rfl ?_
        show Steps p.tables e below (T215.setTop (mkF m 578 #[.val (.int p0), .val (.int p1), .val (.int p2), .val (.int (v0_5 p0)), .val (.int (p1 &&& (7 : Int32))), .val (.int (p2.toInt8.toInt32)), .val (.ref b2), .val (.ref b47), .val (.int (m0_280_l8 p0)), .val (.int (v0_5 p0)), .val (.int (v0_288 p0 p1 p2 HX)), .val (.int (m0_563_s0 p0 p1 p2 HX))] [(.int (m0_280_l8 p0)), (.int (p1 &&& (7 : Int32))), (.int (12 : Int32)), (.ref b2)])) t
        refine XS.aload X215.here hx rfl (hb hby at_578) rfl rfl ?_
        show Steps p.tables e below (T215.setTop (mkF m 580 #[.val (.int p0), .val (.int p1), .val (.int p2), .val (.int (v0_5 p0)), .val (.int (p1 &&& (7 : Int32))), .val (.int (p2.toInt8.toInt32)), .val (.ref b2), .val (.ref b47), .val (.int (m0_280_l8 p0)), .val (.int (v0_5 p0)), .val (.int (v0_288 p0 p1 p2 HX)), .val (.int (m0_563_s0 p0 p1 p2 HX))] [(.ref b47), (.int (m0_280_l8 p0)), (.int (p1 &&& (7 : Int32))), (.int (12 : Int32)), (.ref b2)])) t
        refine XS.iload X215.here hx rfl (hb hby at_580) rfl ?_
        exact k
      obtain ⟨_, _, ⟨T239, L239, kk239, n239⟩, -, X239, ⟨Lc239, hQ239, l239, y239, z239⟩, st239⟩ := Jvm.LawKit.callS X215 hx (y := (⟨"com/example/segmentry/segmentry/io/JsonTextEscapePinLaw", "ok", "([BIII[BB)Z"⟩ : MethodName)) hown (mvT hZ (hw _ (List.mem_of_getElem? (i := 12) rfl))) (mvT hZ (hw _ (List.mem_of_getElem? (i := 13) rfl))) (mvT hZ (hw _ (List.mem_of_getElem? (i := 4) rfl))) (mvT hZ (hw _ (List.mem_of_getElem? (i := 14) rfl))) (by decide) (backOf (W := 0) (rm3 l Z a0 hw [] b2 (12 : Int32) (p1 &&& (7 : Int32)) (m0_280_l8 p0) b47 (p2.toInt8.toInt32) (B0_esc p0 p1 p2 HX) (m0_280_b47 p0) T147.heap n0 (Nat.le_trans Zs50 Kq147.1) gB147' (c50_3.keep Kq147 (ninS (Ne.symm ne_50_b2_b47) nin0)) ⟨by decide, by decide⟩ (own_k6 _ _ _ (own_n6 p0))) hZ (hw _ (List.mem_of_getElem? (i := 14) rfl)) (hw _ (List.mem_of_getElem? (i := 4) rfl)) (by decide) (by decide)) (g := (mkF m 582 #[.val (.int p0), .val (.int p1), .val (.int p2), .val (.int (v0_5 p0)), .val (.int (p1 &&& (7 : Int32))), .val (.int (p2.toInt8.toInt32)), .val (.ref b2), .val (.ref b47), .val (.int (m0_280_l8 p0)), .val (.int (v0_5 p0)), .val (.int (v0_288 p0 p1 p2 HX)), .val (.int (m0_563_s0 p0 p1 p2 HX))] [(.int (p2.toInt8.toInt32)), (.ref b47), (.int (m0_280_l8 p0)), (.int (p1 &&& (7 : Int32))), (.int (12 : Int32)), (.ref b2)])) rfl (by rw [hml]; rfl) (argsL := [(.ref b2), (.int (12 : Int32)), (.int (p1 &&& (7 : Int32))), (.int (m0_280_l8 p0)), (.ref b47), (.int (p2.toInt8.toInt32))]) (rest := []) (lenOf pd_2 rfl) rfl (by show 2 * 0 + _ ≤ _; exact Nat.le_of_eq rfl) (hb hby at_582) (fun _ _ => ⟨rfl, e215, (by decide : 2 + 0 ≤ _), (by decide : 20 + 0 ≤ _)⟩)
      dsimp only [Pt.U, Pt.locs, Pt.cells, Pt.slots] at X239 l239 y239 z239 st239 hQ239
      subst l239 y239 z239
      obtain ⟨rfl, N239q, eh239⟩ := hQ239
      have N239 := Fr.app N215 N239q
      have k240 : own_Go p e below (s₁.setTop (entryFrame m #[(.int p0), (.int p1), (.int p2)] maxLocals)) (T239.setTop (mkF m 585 #[.val (.int p0), .val (.int p1), .val (.int p2), .val (.int (v0_5 p0)), .val (.int (p1 &&& (7 : Int32))), .val (.int (p2.toInt8.toInt32)), .val (.ref b2), .val (.ref b47), .val (.int (m0_280_l8 p0)), .val (.int (v0_5 p0)), .val (.int (v0_288 p0 p1 p2 HX)), .val (.int (m0_563_s0 p0 p1 p2 HX))] [(.int (f3 (12 : Int32) (p1 &&& (7 : Int32)) (m0_280_l8 p0) (p2.toInt8.toInt32) (B0_esc p0 p1 p2 HX) (m0_280_b47 p0)))])) := fun t k => k238 t (st239 t k)
      by_cases hc585_241 : (f3 (12 : Int32) (p1 &&& (7 : Int32)) (m0_280_l8 p0) (p2.toInt8.toInt32) (B0_esc p0 p1 p2 HX) (m0_280_b47 p0)) = (0 : Int32)
      · have k242 : own_Go p e below (s₁.setTop (entryFrame m #[(.int p0), (.int p1), (.int p2)] maxLocals)) (T239.setTop (mkF m 611 #[.val (.int p0), .val (.int p1), .val (.int p2), .val (.int (v0_5 p0)), .val (.int (p1 &&& (7 : Int32))), .val (.int (p2.toInt8.toInt32)), .val (.ref b2), .val (.ref b47), .val (.int (m0_280_l8 p0)), .val (.int (v0_5 p0)), .val (.int (v0_288 p0 p1 p2 HX)), .val (.int (m0_563_s0 p0 p1 p2 HX))] [(.int (0 : Int32))])) := by
          intro t k
          refine k240 t ?_
          show Steps p.tables e below (T239.setTop (mkF m 585 #[.val (.int p0), .val (.int p1), .val (.int p2), .val (.int (v0_5 p0)), .val (.int (p1 &&& (7 : Int32))), .val (.int (p2.toInt8.toInt32)), .val (.ref b2), .val (.ref b47), .val (.int (m0_280_l8 p0)), .val (.int (v0_5 p0)), .val (.int (v0_288 p0 p1 p2 HX)), .val (.int (m0_563_s0 p0 p1 p2 HX))] [(.int (f3 (12 : Int32) (p1 &&& (7 : Int32)) (m0_280_l8 p0) (p2.toInt8.toInt32) (B0_esc p0 p1 p2 HX) (m0_280_b47 p0)))])) t
          refine XS.ifYes X239.here hx rfl (pc0 := 585) (pc' := 610) rfl (hb hby at_585) rfl ((if0 _ _).trans (teq hc585_241).1) (by decide) (by decide) ?_
          show Steps p.tables e below (T239.setTop (mkF m 610 #[.val (.int p0), .val (.int p1), .val (.int p2), .val (.int (v0_5 p0)), .val (.int (p1 &&& (7 : Int32))), .val (.int (p2.toInt8.toInt32)), .val (.ref b2), .val (.ref b47), .val (.int (m0_280_l8 p0)), .val (.int (v0_5 p0)), .val (.int (v0_288 p0 p1 p2 HX)), .val (.int (m0_563_s0 p0 p1 p2 HX))] [])) t
          refine XS.iconst X239.here hx rfl (hb hby at_610) ?_
          exact k
        exact ⟨_, _, X239, eh239, N239, (by rw [show (m0_611_s0 p0 p1 p2 HX) = (0 : Int32) from (by unfold m0_611_s0; rw [if_neg hc567_236, if_pos hc585_241])]; exact k242)⟩
      · have k243 : own_Go p e below (s₁.setTop (entryFrame m #[(.int p0), (.int p1), (.int p2)] maxLocals)) (T239.setTop (mkF m 600 #[.val (.int p0), .val (.int p1), .val (.int p2), .val (.int (v0_5 p0)), .val (.int (p1 &&& (7 : Int32))), .val (.int (p2.toInt8.toInt32)), .val (.ref b2), .val (.ref b47), .val (.int (m0_280_l8 p0)), .val (.int (v0_5 p0)), .val (.int (v0_288 p0 p1 p2 HX)), .val (.int (m0_563_s0 p0 p1 p2 HX))] [(.int (p2.toInt8.toInt32)), (.ref b47), (.int (m0_280_l8 p0)), (.int (p1 &&& (7 : Int32))), (.int (13 : Int32)), (.ref b2)])) := by
          intro t k
          refine k240 t ?_
          show Steps p.tables e below (T239.setTop (mkF m 585 #[.val (.int p0), .val (.int p1), .val (.int p2), .val (.int (v0_5 p0)), .val (.int (p1 &&& (7 : Int32))), .val (.int (p2.toInt8.toInt32)), .val (.ref b2), .val (.ref b47), .val (.int (m0_280_l8 p0)), .val (.int (v0_5 p0)), .val (.int (v0_288 p0 p1 p2 HX)), .val (.int (m0_563_s0 p0 p1 p2 HX))] [(.int (f3 (12 : Int32) (p1 &&& (7 : Int32)) (m0_280_l8 p0) (p2.toInt8.toInt32) (B0_esc p0 p1 p2 HX) (m0_280_b47 p0)))])) t
          refine XS.ifNo X239.here hx rfl (hb hby at_585) rfl ((if0 _ _).trans (feq hc585_241).1) ?_
          show Steps p.tables e below (T239.setTop (mkF m 588 #[.val (.int p0), .val (.int p1), .val (.int p2), .val (.int (v0_5 p0)), .val (.int (p1 &&& (7 : Int32))), .val (.int (p2.toInt8.toInt32)), .val (.ref b2), .val (.ref b47), .val (.int (m0_280_l8 p0)), .val (.int (v0_5 p0)), .val (.int (v0_288 p0 p1 p2 HX)), .val (.int (m0_563_s0 p0 p1 p2 HX))] [])) t
          refine XS.aload X239.here hx rfl (hb hby at_588) rfl rfl ?_
          show Steps p.tables e below (T239.setTop (mkF m 590 #[.val (.int p0), .val (.int p1), .val (.int p2), .val (.int (v0_5 p0)), .val (.int (p1 &&& (7 : Int32))), .val (.int (p2.toInt8.toInt32)), .val (.ref b2), .val (.ref b47), .val (.int (m0_280_l8 p0)), .val (.int (v0_5 p0)), .val (.int (v0_288 p0 p1 p2 HX)), .val (.int (m0_563_s0 p0 p1 p2 HX))] [(.ref b2)])) t
          refine XS.bipush X239.here hx rfl (hb hby at_590) ?_
          show Steps p.tables e below (T239.setTop (mkF m 592 #[.val (.int p0), .val (.int p1), .val (.int p2), .val (.int (v0_5 p0)), .val (.int (p1 &&& (7 : Int32))), .val (.int (p2.toInt8.toInt32)), .val (.ref b2), .val (.ref b47), .val (.int (m0_280_l8 p0)), .val (.int (v0_5 p0)), .val (.int (v0_288 p0 p1 p2 HX)), .val (.int (m0_563_s0 p0 p1 p2 HX))] [(.int (13 : Int32)), (.ref b2)])) t
          refine XS.iload X239.here hx rfl (hb hby at_592) rfl ?_
          show Steps p.tables e below (T239.setTop (mkF m 594 #[.val (.int p0), .val (.int p1), .val (.int p2), .val (.int (v0_5 p0)), .val (.int (p1 &&& (7 : Int32))), .val (.int (p2.toInt8.toInt32)), .val (.ref b2), .val (.ref b47), .val (.int (m0_280_l8 p0)), .val (.int (v0_5 p0)), .val (.int (v0_288 p0 p1 p2 HX)), .val (.int (m0_563_s0 p0 p1 p2 HX))] [(.int (p1 &&& (7 : Int32))), (.int (13 : Int32)), (.ref b2)])) t
          refine XS.iload X239.here hx rfl (hb hby at_594) rfl ?_
          show Steps p.tables e below (T239.setTop (mkF m 596 #[.val (.int p0), .val (.int p1), .val (.int p2), .val (.int (v0_5 p0)), .val (.int (p1 &&& (7 : Int32))), .val (.int (p2.toInt8.toInt32)), .val (.ref b2), .val (.ref b47), .val (.int (m0_280_l8 p0)), .val (.int (v0_5 p0)), .val (.int (v0_288 p0 p1 p2 HX)), .val (.int (m0_563_s0 p0 p1 p2 HX))] [(.int (m0_280_l8 p0)), (.int (p1 &&& (7 : Int32))), (.int (13 : Int32)), (.ref b2)])) t
          refine XS.aload X239.here hx rfl (hb hby at_596) rfl rfl ?_
          show Steps p.tables e below (T239.setTop (mkF m 598 #[.val (.int p0), .val (.int p1), .val (.int p2), .val (.int (v0_5 p0)), .val (.int (p1 &&& (7 : Int32))), .val (.int (p2.toInt8.toInt32)), .val (.ref b2), .val (.ref b47), .val (.int (m0_280_l8 p0)), .val (.int (v0_5 p0)), .val (.int (v0_288 p0 p1 p2 HX)), .val (.int (m0_563_s0 p0 p1 p2 HX))] [(.ref b47), (.int (m0_280_l8 p0)), (.int (p1 &&& (7 : Int32))), (.int (13 : Int32)), (.ref b2)])) t
          refine XS.iload X239.here hx rfl (hb hby at_598) rfl ?_
          exact k
        obtain ⟨_, _, ⟨T244, L244, kk244, n244⟩, -, X244, ⟨Lc244, hQ244, l244, y244, z244⟩, st244⟩ := Jvm.LawKit.callS X239 hx (y := (⟨"com/example/segmentry/segmentry/io/JsonTextEscapePinLaw", "ok", "([BIII[BB)Z"⟩ : MethodName)) hown (mvT hZ (hw _ (List.mem_of_getElem? (i := 12) rfl))) (mvT hZ (hw _ (List.mem_of_getElem? (i := 13) rfl))) (mvT hZ (hw _ (List.mem_of_getElem? (i := 4) rfl))) (mvT hZ (hw _ (List.mem_of_getElem? (i := 14) rfl))) (by decide) (backOf (W := 0) (rm3 l Z a0 hw [] b2 (13 : Int32) (p1 &&& (7 : Int32)) (m0_280_l8 p0) b47 (p2.toInt8.toInt32) (B0_esc p0 p1 p2 HX) (m0_280_b47 p0) T147.heap n0 (Nat.le_trans Zs50 Kq147.1) gB147' (c50_3.keep Kq147 (ninS (Ne.symm ne_50_b2_b47) nin0)) ⟨by decide, by decide⟩ (own_k6 _ _ _ (own_n6 p0))) hZ (hw _ (List.mem_of_getElem? (i := 14) rfl)) (hw _ (List.mem_of_getElem? (i := 4) rfl)) (by decide) (by decide)) (g := (mkF m 600 #[.val (.int p0), .val (.int p1), .val (.int p2), .val (.int (v0_5 p0)), .val (.int (p1 &&& (7 : Int32))), .val (.int (p2.toInt8.toInt32)), .val (.ref b2), .val (.ref b47), .val (.int (m0_280_l8 p0)), .val (.int (v0_5 p0)), .val (.int (v0_288 p0 p1 p2 HX)), .val (.int (m0_563_s0 p0 p1 p2 HX))] [(.int (p2.toInt8.toInt32)), (.ref b47), (.int (m0_280_l8 p0)), (.int (p1 &&& (7 : Int32))), (.int (13 : Int32)), (.ref b2)])) rfl (by rw [hml]; rfl) (argsL := [(.ref b2), (.int (13 : Int32)), (.int (p1 &&& (7 : Int32))), (.int (m0_280_l8 p0)), (.ref b47), (.int (p2.toInt8.toInt32))]) (rest := []) (lenOf pd_2 rfl) rfl (by show 2 * 0 + _ ≤ _; exact Nat.le_of_eq rfl) (hb hby at_600) (fun _ _ => ⟨rfl, eh239, (by decide : 2 + 0 ≤ _), (by decide : 20 + 0 ≤ _)⟩)
        dsimp only [Pt.U, Pt.locs, Pt.cells, Pt.slots] at X244 l244 y244 z244 st244 hQ244
        subst l244 y244 z244
        obtain ⟨rfl, N244q, eh244⟩ := hQ244
        have N244 := Fr.app N239 N244q
        have k245 : own_Go p e below (s₁.setTop (entryFrame m #[(.int p0), (.int p1), (.int p2)] maxLocals)) (T244.setTop (mkF m 603 #[.val (.int p0), .val (.int p1), .val (.int p2), .val (.int (v0_5 p0)), .val (.int (p1 &&& (7 : Int32))), .val (.int (p2.toInt8.toInt32)), .val (.ref b2), .val (.ref b47), .val (.int (m0_280_l8 p0)), .val (.int (v0_5 p0)), .val (.int (v0_288 p0 p1 p2 HX)), .val (.int (m0_563_s0 p0 p1 p2 HX))] [(.int (f3 (13 : Int32) (p1 &&& (7 : Int32)) (m0_280_l8 p0) (p2.toInt8.toInt32) (B0_esc p0 p1 p2 HX) (m0_280_b47 p0)))])) := fun t k => k243 t (st244 t k)
        by_cases hc603_246 : (f3 (13 : Int32) (p1 &&& (7 : Int32)) (m0_280_l8 p0) (p2.toInt8.toInt32) (B0_esc p0 p1 p2 HX) (m0_280_b47 p0)) = (0 : Int32)
        · have k247 : own_Go p e below (s₁.setTop (entryFrame m #[(.int p0), (.int p1), (.int p2)] maxLocals)) (T244.setTop (mkF m 611 #[.val (.int p0), .val (.int p1), .val (.int p2), .val (.int (v0_5 p0)), .val (.int (p1 &&& (7 : Int32))), .val (.int (p2.toInt8.toInt32)), .val (.ref b2), .val (.ref b47), .val (.int (m0_280_l8 p0)), .val (.int (v0_5 p0)), .val (.int (v0_288 p0 p1 p2 HX)), .val (.int (m0_563_s0 p0 p1 p2 HX))] [(.int (0 : Int32))])) := by
            intro t k
            refine k245 t ?_
            show Steps p.tables e below (T244.setTop (mkF m 603 #[.val (.int p0), .val (.int p1), .val (.int p2), .val (.int (v0_5 p0)), .val (.int (p1 &&& (7 : Int32))), .val (.int (p2.toInt8.toInt32)), .val (.ref b2), .val (.ref b47), .val (.int (m0_280_l8 p0)), .val (.int (v0_5 p0)), .val (.int (v0_288 p0 p1 p2 HX)), .val (.int (m0_563_s0 p0 p1 p2 HX))] [(.int (f3 (13 : Int32) (p1 &&& (7 : Int32)) (m0_280_l8 p0) (p2.toInt8.toInt32) (B0_esc p0 p1 p2 HX) (m0_280_b47 p0)))])) t
            refine XS.ifYes X244.here hx rfl (pc0 := 603) (pc' := 610) rfl (hb hby at_603) rfl ((if0 _ _).trans (teq hc603_246).1) (by decide) (by decide) ?_
            show Steps p.tables e below (T244.setTop (mkF m 610 #[.val (.int p0), .val (.int p1), .val (.int p2), .val (.int (v0_5 p0)), .val (.int (p1 &&& (7 : Int32))), .val (.int (p2.toInt8.toInt32)), .val (.ref b2), .val (.ref b47), .val (.int (m0_280_l8 p0)), .val (.int (v0_5 p0)), .val (.int (v0_288 p0 p1 p2 HX)), .val (.int (m0_563_s0 p0 p1 p2 HX))] [])) t
            refine XS.iconst X244.here hx rfl (hb hby at_610) ?_
            exact k
          exact ⟨_, _, X244, eh244, N244, (by rw [show (m0_611_s0 p0 p1 p2 HX) = (0 : Int32) from (by unfold m0_611_s0; rw [if_neg hc567_236, if_neg hc585_241, if_pos hc603_246])]; exact k247)⟩
        · have k248 : own_Go p e below (s₁.setTop (entryFrame m #[(.int p0), (.int p1), (.int p2)] maxLocals)) (T244.setTop (mkF m 611 #[.val (.int p0), .val (.int p1), .val (.int p2), .val (.int (v0_5 p0)), .val (.int (p1 &&& (7 : Int32))), .val (.int (p2.toInt8.toInt32)), .val (.ref b2), .val (.ref b47), .val (.int (m0_280_l8 p0)), .val (.int (v0_5 p0)), .val (.int (v0_288 p0 p1 p2 HX)), .val (.int (m0_563_s0 p0 p1 p2 HX))] [(.int (1 : Int32))])) := by
            intro t k
            refine k245 t ?_
            show Steps p.tables e below (T244.setTop (mkF m 603 #[.val (.int p0), .val (.int p1), .val (.int p2), .val (.int (v0_5 p0)), .val (.int (p1 &&& (7 : Int32))), .val (.int (p2.toInt8.toInt32)), .val (.ref b2), .val (.ref b47), .val (.int (m0_280_l8 p0)), .val (.int (v0_5 p0)), .val (.int (v0_288 p0 p1 p2 HX)), .val (.int (m0_563_s0 p0 p1 p2 HX))] [(.int (f3 (13 : Int32) (p1 &&& (7 : Int32)) (m0_280_l8 p0) (p2.toInt8.toInt32) (B0_esc p0 p1 p2 HX) (m0_280_b47 p0)))])) t
            refine XS.ifNo X244.here hx rfl (hb hby at_603) rfl ((if0 _ _).trans (feq hc603_246).1) ?_
            show Steps p.tables e below (T244.setTop (mkF m 606 #[.val (.int p0), .val (.int p1), .val (.int p2), .val (.int (v0_5 p0)), .val (.int (p1 &&& (7 : Int32))), .val (.int (p2.toInt8.toInt32)), .val (.ref b2), .val (.ref b47), .val (.int (m0_280_l8 p0)), .val (.int (v0_5 p0)), .val (.int (v0_288 p0 p1 p2 HX)), .val (.int (m0_563_s0 p0 p1 p2 HX))] [])) t
            refine XS.iconst X244.here hx rfl (hb hby at_606) ?_
            show Steps p.tables e below (T244.setTop (mkF m 607 #[.val (.int p0), .val (.int p1), .val (.int p2), .val (.int (v0_5 p0)), .val (.int (p1 &&& (7 : Int32))), .val (.int (p2.toInt8.toInt32)), .val (.ref b2), .val (.ref b47), .val (.int (m0_280_l8 p0)), .val (.int (v0_5 p0)), .val (.int (v0_288 p0 p1 p2 HX)), .val (.int (m0_563_s0 p0 p1 p2 HX))] [(.int (1 : Int32))])) t
            refine XS.goto X244.here hx rfl (pc0 := 607) (pc' := 611) rfl (hb hby at_607) (by decide) (by decide) ?_
            exact k
          exact ⟨_, _, X244, eh244, N244, (by rw [show (m0_611_s0 p0 p1 p2 HX) = (1 : Int32) from (by unfold m0_611_s0; rw [if_neg hc567_236, if_neg hc585_241, if_neg hc603_246])]; exact k248)⟩
  have k249 : own_Go p e below (s₁.setTop (entryFrame m #[(.int p0), (.int p1), (.int p2)] maxLocals)) (T235.setTop (mkF m 615 #[.val (.int p0), .val (.int p1), .val (.int p2), .val (.int (v0_5 p0)), .val (.int (p1 &&& (7 : Int32))), .val (.int (p2.toInt8.toInt32)), .val (.ref b2), .val (.ref b47), .val (.int (m0_280_l8 p0)), .val (.int (v0_5 p0)), .val (.int (v0_288 p0 p1 p2 HX)), .val (.int (m0_611_s0 p0 p1 p2 HX))] [(.int (m0_611_s0 p0 p1 p2 HX))])) := by
    intro t k
    refine k235 t ?_
    show Steps p.tables e below (T235.setTop (mkF m 611 #[.val (.int p0), .val (.int p1), .val (.int p2), .val (.int (v0_5 p0)), .val (.int (p1 &&& (7 : Int32))), .val (.int (p2.toInt8.toInt32)), .val (.ref b2), .val (.ref b47), .val (.int (m0_280_l8 p0)), .val (.int (v0_5 p0)), .val (.int (v0_288 p0 p1 p2 HX)), .val (.int (m0_563_s0 p0 p1 p2 HX))] [(.int (m0_611_s0 p0 p1 p2 HX))])) t
    refine XS.istore X235.here hx rfl (hb hby at_611) rfl (l' := #[.val (.int p0), .val (.int p1), .val (.int p2), .val (.int (v0_5 p0)), .val (.int (p1 &&& (7 : Int32))), .val (.int (p2.toInt8.toInt32)), .val (.ref b2), .val (.ref b47), .val (.int (m0_280_l8 p0)), .val (.int (v0_5 p0)), .val (.int (v0_288 p0 p1 p2 HX)), .val (.int (m0_611_s0 p0 p1 p2 HX))]) rfl ?_
    show Steps p.tables e below (T235.setTop (mkF m 613 #[.val (.int p0), .val (.int p1), .val (.int p2), .val (.int (v0_5 p0)), .val (.int (p1 &&& (7 : Int32))), .val (.int (p2.toInt8.toInt32)), .val (.ref b2), .val (.ref b47), .val (.int (m0_280_l8 p0)), .val (.int (v0_5 p0)), .val (.int (v0_288 p0 p1 p2 HX)), .val (.int (m0_611_s0 p0 p1 p2 HX))] [])) t
    refine XS.iload X235.here hx rfl (hb hby at_613) rfl ?_
    exact k
  obtain ⟨fs, hr, hrun, hended, hW, hsame⟩ := X235.leave (v := some (.int ((m0_611_s0 p0 p1 p2 HX) &&& 1))) (fun h => by rw [Bd.returns] at h; cases h)
  refine ⟨_, _, k249 _ ?_, hrun, hended, _, _, rfl, ?_, ⟨_, rfl⟩, hW, hsame.mono (by decide) (by decide)⟩
  · exact retN X235 hx (t := .boolean) Bd.returns (by simp) (hb hby at_615) hr
  · show Q0 Z p0 p1 p2 HX wH h0 n0 _ T235.heap _
    rw [e235]
    exact ⟨congrArg (fun z => some (Value.int z)) (show f0 p0 p1 p2 HX = ((m0_611_s0 p0 p1 p2 HX) &&& 1) from (by unfold f0; rfl)).symm, N235⟩
theorem own_nb (x : Int32) : (x.toInt8.toInt32).toInt8.toInt32 = x.toInt8.toInt32 := by simp
theorem own_sub (i a : Nat) (hi : i < 14) (ha : a < 8) : (Int32.ofNat i - Int32.ofNat a).toInt = (i : Int) - a := by
  rw [Jvm.Kit.i32_sub] <;> rw [Int32.toInt_ofNat_of_lt (by omega), Int32.toInt_ofNat_of_lt (by omega)] <;> omega
theorem own_core (a n i : Nat) (ha : a < 8) (hn : n ≤ 6) (hi : i < 14) (fill : Int32) (B E : Nat → Int32) (hB : B i = if a ≤ i ∧ i < a + n then E (i - a) else fill) : f3 (Int32.ofNat i) (Int32.ofNat a) (Int32.ofNat n) fill B E = 1 := by
  have e := own_sub i a hi ha
  have ei : (Int32.ofNat i).toNatClampNeg = i := by show (Int32.ofNat i).toInt.toNat = i; rw [Int32.toInt_ofNat_of_lt (by omega)]; omega
  have e1 : (Int32.ofNat i - Int32.ofNat a < (0 : Int32)) ↔ i < a := by rw [Int32.lt_iff_toInt_lt, e, show (0 : Int32).toInt = 0 from rfl]; omega
  have e2 : (Int32.ofNat i - Int32.ofNat a < Int32.ofNat n) ↔ i < a + n := by rw [Int32.lt_iff_toInt_lt, e, Int32.toInt_ofNat_of_lt (by omega)]; omega
  have e3 : (Int32.ofNat i - Int32.ofNat a).toNatClampNeg = i - a := by show (Int32.ofNat i - Int32.ofNat a).toInt.toNat = _; rw [e]; omega
  unfold f3 v3_26
  rw [ei, e3]
  by_cases q1 : i < a
  · rw [if_pos (e1.mpr q1), hB, if_neg (show ¬ (a ≤ i ∧ i < a + n) by omega), if_pos rfl]
  · rw [if_neg (fun z => q1 (e1.mp z))]
    by_cases q2 : i < a + n
    · rw [if_pos (e2.mpr q2), hB, if_pos (show a ≤ i ∧ i < a + n from ⟨by omega, q2⟩), if_pos rfl]
    · rw [if_neg (fun z => q2 (e2.mp z)), hB, if_neg (show ¬ (a ≤ i ∧ i < a + n) by omega), if_pos rfl]
theorem own_fill (p : Int32) : ∀ i, i < 14 → B0_113 p i = p.toInt8.toInt32
  | 0, _ => own_nb p
  | 1, _ => own_nb p
  | 2, _ => own_nb p
  | 3, _ => own_nb p
  | 4, _ => own_nb p
  | 5, _ => own_nb p
  | 6, _ => own_nb p
  | 7, _ => own_nb p
  | 8, _ => own_nb p
  | 9, _ => own_nb p
  | 10, _ => own_nb p
  | 11, _ => own_nb p
  | 12, _ => own_nb p
  | 13, _ => own_nb p
  | n + 14, h => absurd h (by omega)
theorem own_six (B0 : Nat → Int32) (a : Nat) (x0 x1 x2 x3 x4 x5 : Int32) (i : Nat) : own_up (own_up (own_up (own_up (own_up (own_up B0 a x0) (a + 1) x1) (a + 2) x2) (a + 3) x3) (a + 4) x4) (a + 5) x5 i = if a ≤ i ∧ i < a + 6 then own_up (own_up (own_up (own_up (own_up (own_up (fun _ => 0) 0 x0) 1 x1) 2 x2) 3 x3) 4 x4) 5 x5 (i - a) else B0 i := by
  by_cases h : a ≤ i ∧ i < a + 6
  · rw [if_pos h]
    obtain ⟨d, rfl⟩ : ∃ d, i = a + d := ⟨i - a, by omega⟩
    rw [show a + d - a = d by omega]
    have hd : d < 6 := by omega
    have e : ∀ k, (a + d = a + k) = (d = k) := fun k => by simp
    have e0 : (a + d = a) = (d = 0) := by simp
    simp only [own_up, e, e0]
    repeat' split
    all_goals first | rfl | (exfalso; omega)
  · rw [if_neg h]
    simp only [own_up]
    rw [if_neg (by omega), if_neg (by omega), if_neg (by omega), if_neg (by omega), if_neg (by omega), if_neg (by omega)]
theorem own_at0 (a : Nat) (ha : a < 8) : (Int32.ofNat a).toNatClampNeg = a := by revert ha; revert a; decide
theorem own_at1 (a : Nat) (ha : a < 8) : ((Int32.ofNat a + (1 : Int32))).toNatClampNeg = a + 1 := by revert ha; revert a; decide
theorem own_at2 (a : Nat) (ha : a < 8) : ((Int32.ofNat a + (2 : Int32))).toNatClampNeg = a + 2 := by revert ha; revert a; decide
theorem own_at3 (a : Nat) (ha : a < 8) : ((Int32.ofNat a + (3 : Int32))).toNatClampNeg = a + 3 := by revert ha; revert a; decide
theorem own_at4 (a : Nat) (ha : a < 8) : ((Int32.ofNat a + (4 : Int32))).toNatClampNeg = a + 4 := by revert ha; revert a; decide
theorem own_at5 (a : Nat) (ha : a < 8) : ((Int32.ofNat a + (5 : Int32))).toNatClampNeg = a + 5 := by revert ha; revert a; decide
def own_Hs (HX : Nat → Int32) : Prop := ∀ j, j < 16 → HX j = if j < 10 then Int32.ofNat (48 + j) else Int32.ofNat (87 + j)
theorem own_dig (HX : Nat → Int32) (hH : own_Hs HX) (x y : Int32) (k : Int) (hx : x.toInt = k) (hy : y.toInt = k) (h0 : 0 ≤ k) (h1 : k < 16) : (HX x.toNatClampNeg).toInt8.toInt32 = (f1 y).toInt8.toInt32 := by
  obtain ⟨n, rfl⟩ : ∃ n : Nat, k = n := ⟨k.toNat, by omega⟩
  have ex : x.toNatClampNeg = n := by show x.toInt.toNat = n; omega
  have ey : y = Int32.ofNat n := by apply Int32.toInt_inj.mp; rw [Int32.toInt_ofNat_of_lt (by omega)]; exact hy
  have hn : n < 16 := by omega
  rw [ex, ey, hH n hn]
  clear hx hy h0 h1 ex ey
  revert hn; revert n; decide
set_option maxHeartbeats 8000000 in
theorem own_lay (v p1 p2 : Int32) (HX : Nat → Int32) (hH : own_Hs HX) (hv : 0 ≤ v.toInt ∧ v.toInt < 65536) (E : Nat → Int32) (a n : Nat) (ha : a < 8)
    (hE : (v = 34 ∨ v = 92) ∧ n = 2 ∧ E = own_up (own_up (fun _ => 0) 0 ((92 : Int32).toInt8.toInt32)) 1 ((v.toInt8.toInt32).toInt8.toInt32) ∨
      ¬ (v = 34 ∨ v = 92) ∧ (¬ v < 32 ∧ ¬ 126 < v) ∧ n = 1 ∧ E = own_up (fun _ => 0) 0 ((v.toInt8.toInt32).toInt8.toInt32) ∨
      ¬ (v = 34 ∨ v = 92) ∧ ¬ (¬ v < 32 ∧ ¬ 126 < v) ∧ v = 9 ∧ n = 2 ∧ E = own_up (own_up (fun _ => 0) 0 ((92 : Int32).toInt8.toInt32)) 1 ((116 : Int32).toInt8.toInt32) ∨
      ¬ (v = 34 ∨ v = 92) ∧ ¬ (¬ v < 32 ∧ ¬ 126 < v) ∧ ¬ v = 9 ∧ n = 6 ∧ E = own_up (own_up (own_up (own_up (own_up (own_up (fun _ => 0) 0 ((92 : Int32).toInt8.toInt32)) 1 ((117 : Int32).toInt8.toInt32)) 2 ((f1 (v / (4096 : Int32))).toInt8.toInt32)) 3 ((f1 ((v / (256 : Int32)) % (16 : Int32))).toInt8.toInt32)) 4 ((f1 ((v / (16 : Int32)) % (16 : Int32))).toInt8.toInt32)) 5 ((f1 (v % (16 : Int32))).toInt8.toInt32)) :
    f2 v (Int32.ofNat a) (B0_113 p2) HX = Int32.ofNat a + Int32.ofNat n ∧ n ≤ 6 ∧ ∀ i, i < 14 → G2 v (Int32.ofNat a) (B0_113 p2) HX i = if a ≤ i ∧ i < a + n then E (i - a) else p2.toInt8.toInt32 := by
  have F := own_fill p2
  rcases hE with ⟨c1, rfl, rfl⟩ | ⟨c1, c2, rfl, rfl⟩ | ⟨c1, c2, c3, rfl, rfl⟩ | ⟨c1, c2, c3, rfl, rfl⟩
  · have eG : G2 v (Int32.ofNat a) (B0_113 p2) HX = B2_23 v (Int32.ofNat a) (B0_113 p2) := by
      unfold G2; rcases c1 with h | h
      · rw [if_pos h]
      · rw [if_neg (by rw [h]; decide), if_pos h]
    have eF : f2 v (Int32.ofNat a) (B0_113 p2) HX = Int32.ofNat a + 2 := by
      unfold f2; rcases c1 with h | h
      · rw [if_pos h]
      · rw [if_neg (by rw [h]; decide), if_pos h]
    refine ⟨by rw [eF]; rfl, by omega, fun i hi => ?_⟩
    rw [eG]
    simp only [B2_23, B2_16, own_up, own_at0 a ha, own_at1 a ha, F i hi]
    repeat' split
    all_goals first | rfl | (exfalso; omega)
  · have eG : G2 v (Int32.ofNat a) (B0_113 p2) HX = B2_44 v (Int32.ofNat a) (B0_113 p2) := by
      unfold G2; rw [if_neg (fun h => c1 (Or.inl h)), if_neg (fun h => c1 (Or.inr h)), if_neg c2.1, if_neg c2.2]
    have eF : f2 v (Int32.ofNat a) (B0_113 p2) HX = Int32.ofNat a + 1 := by
      unfold f2; rw [if_neg (fun h => c1 (Or.inl h)), if_neg (fun h => c1 (Or.inr h)), if_neg c2.1, if_neg c2.2]
    refine ⟨by rw [eF]; rfl, by omega, fun i hi => ?_⟩
    rw [eG]
    simp only [B2_44, own_up, own_at0 a ha, F i hi]
    repeat' split
    all_goals first | rfl | (exfalso; omega)
  · have eG : G2 v (Int32.ofNat a) (B0_113 p2) HX = B2_66 (Int32.ofNat a) (B0_113 p2) := by
      unfold G2; rw [if_neg (fun h => c1 (Or.inl h)), if_neg (fun h => c1 (Or.inr h)), if_pos (by rw [c3]; decide), if_pos c3]
    have eF : f2 v (Int32.ofNat a) (B0_113 p2) HX = Int32.ofNat a + 2 := by
      unfold f2; rw [if_neg (fun h => c1 (Or.inl h)), if_neg (fun h => c1 (Or.inr h)), if_pos (by rw [c3]; decide), if_pos c3]
    refine ⟨by rw [eF]; rfl, by omega, fun i hi => ?_⟩
    rw [eG]
    simp only [B2_66, B2_59, own_up, own_at0 a ha, own_at1 a ha, F i hi]
    repeat' split
    all_goals first | rfl | (exfalso; omega)
  · have eG : G2 v (Int32.ofNat a) (B0_113 p2) HX = B2_139 v (Int32.ofNat a) (B0_113 p2) HX := by
      unfold G2; rw [if_neg (fun h => c1 (Or.inl h)), if_neg (fun h => c1 (Or.inr h))]
      by_cases h : v < 32
      · rw [if_pos h, if_neg c3]
      · rw [if_neg h, if_pos (Classical.byContradiction fun h2 => c2 ⟨h, h2⟩), if_neg c3]
    have eF : f2 v (Int32.ofNat a) (B0_113 p2) HX = Int32.ofNat a + 6 := by
      unfold f2; rw [if_neg (fun h => c1 (Or.inl h)), if_neg (fun h => c1 (Or.inr h))]
      by_cases h : v < 32
      · rw [if_pos h, if_neg c3]
      · rw [if_neg h, if_pos (Classical.byContradiction fun h2 => c2 ⟨h, h2⟩), if_neg c3]
    refine ⟨by rw [eF]; rfl, by omega, fun i hi => ?_⟩
    have dv : ∀ (d : Int32) (k : Int), d.toInt = k → 0 < k → (v / d).toInt = v.toInt / k := fun d k e hk => by
      rw [Jvm.Kit.i32_div (by omega), e, Int.tdiv_eq_ediv_of_nonneg hv.1]
    have h1 := own_dig HX hH _ (v / (4096 : Int32)) _ (own_s1 (p := v)) (dv (4096 : Int32) 4096 rfl (by decide)) (by omega) (by omega)
    have h2 := own_dig HX hH _ ((v / (256 : Int32)) % (16 : Int32)) _ (own_s2 (p := v)) (by rw [Jvm.Kit.i32_rem_nonneg (by rw [dv (256 : Int32) 256 rfl (by decide)]; omega), dv (256 : Int32) 256 rfl (by decide)]; rfl) (by omega) (by omega)
    have h3 := own_dig HX hH _ ((v / (16 : Int32)) % (16 : Int32)) _ (own_s3 (p := v)) (by rw [Jvm.Kit.i32_rem_nonneg (by rw [dv (16 : Int32) 16 rfl (by decide)]; omega), dv (16 : Int32) 16 rfl (by decide)]; rfl) (by omega) (by omega)
    have h4 := own_dig HX hH _ (v % (16 : Int32)) _ (own_s4 (p := v)) (by rw [Jvm.Kit.i32_rem_nonneg hv.1]; rfl) (by omega) (by omega)
    rw [eG]
    simp only [B2_139, B2_126, B2_111, B2_95, B2_82, B2_75, own_at0 a ha, own_at1 a ha, own_at2 a ha, own_at3 a ha, own_at4 a ha, own_at5 a ha, h1, h2, h3, h4]
    rw [own_six, F i hi]
theorem own_law (p0 p1 p2 : Int32) (HX : Nat → Int32) (hH : own_Hs HX) : f0 p0 p1 p2 HX = 1 := by
  obtain ⟨a, ha, ea⟩ := own_and7 p1
  have hv := own_char p0
  obtain ⟨n, hE⟩ : ∃ n : Nat, m0_280_l8 p0 = Int32.ofNat n ∧ (((v0_5 p0) = 34 ∨ (v0_5 p0) = 92) ∧ n = 2 ∧ m0_280_b47 p0 = own_up (own_up (fun _ => 0) 0 ((92 : Int32).toInt8.toInt32)) 1 (((v0_5 p0).toInt8.toInt32).toInt8.toInt32) ∨
      ¬ ((v0_5 p0) = 34 ∨ (v0_5 p0) = 92) ∧ (¬ (v0_5 p0) < 32 ∧ ¬ 126 < (v0_5 p0)) ∧ n = 1 ∧ m0_280_b47 p0 = own_up (fun _ => 0) 0 (((v0_5 p0).toInt8.toInt32).toInt8.toInt32) ∨
      ¬ ((v0_5 p0) = 34 ∨ (v0_5 p0) = 92) ∧ ¬ (¬ (v0_5 p0) < 32 ∧ ¬ 126 < (v0_5 p0)) ∧ (v0_5 p0) = 9 ∧ n = 2 ∧ m0_280_b47 p0 = own_up (own_up (fun _ => 0) 0 ((92 : Int32).toInt8.toInt32)) 1 ((116 : Int32).toInt8.toInt32) ∨
      ¬ ((v0_5 p0) = 34 ∨ (v0_5 p0) = 92) ∧ ¬ (¬ (v0_5 p0) < 32 ∧ ¬ 126 < (v0_5 p0)) ∧ ¬ (v0_5 p0) = 9 ∧ n = 6 ∧ m0_280_b47 p0 = own_up (own_up (own_up (own_up (own_up (own_up (fun _ => 0) 0 ((92 : Int32).toInt8.toInt32)) 1 ((117 : Int32).toInt8.toInt32)) 2 ((f1 ((v0_5 p0) / (4096 : Int32))).toInt8.toInt32)) 3 ((f1 (((v0_5 p0) / (256 : Int32)) % (16 : Int32))).toInt8.toInt32)) 4 ((f1 (((v0_5 p0) / (16 : Int32)) % (16 : Int32))).toInt8.toInt32)) 5 ((f1 ((v0_5 p0) % (16 : Int32))).toInt8.toInt32)) := by
    unfold m0_280_l8 m0_280_b47
    by_cases c1 : (v0_5 p0) = 34
    · exact ⟨2, by rw [if_pos c1]; rfl, Or.inl ⟨Or.inl c1, rfl, by rw [if_pos c1]; rfl⟩⟩
    by_cases c2 : (v0_5 p0) = 92
    · exact ⟨2, by rw [if_neg c1, if_pos c2]; rfl, Or.inl ⟨Or.inr c2, rfl, by rw [if_neg c1, if_pos c2]; rfl⟩⟩
    have c12 : ¬ ((v0_5 p0) = 34 ∨ (v0_5 p0) = 92) := fun h => h.elim c1 c2
    by_cases c3 : (v0_5 p0) < 32
    · by_cases c4 : (v0_5 p0) = 9
      · exact ⟨2, by rw [if_neg c1, if_neg c2, if_pos c3, if_pos c4]; rfl, Or.inr (Or.inr (Or.inl ⟨c12, fun h => h.1 c3, c4, rfl, by rw [if_neg c1, if_neg c2, if_pos c3, if_pos c4]; rfl⟩))⟩
      · exact ⟨6, by rw [if_neg c1, if_neg c2, if_pos c3, if_neg c4]; rfl, Or.inr (Or.inr (Or.inr ⟨c12, fun h => h.1 c3, c4, rfl, by rw [if_neg c1, if_neg c2, if_pos c3, if_neg c4]; rfl⟩))⟩
    · by_cases c5 : 126 < (v0_5 p0)
      · by_cases c4 : (v0_5 p0) = 9
        · exact ⟨2, by rw [if_neg c1, if_neg c2, if_neg c3, if_pos c5, if_pos c4]; rfl, Or.inr (Or.inr (Or.inl ⟨c12, fun h => h.2 c5, c4, rfl, by rw [if_neg c1, if_neg c2, if_neg c3, if_pos c5, if_pos c4]; rfl⟩))⟩
        · exact ⟨6, by rw [if_neg c1, if_neg c2, if_neg c3, if_pos c5, if_neg c4]; rfl, Or.inr (Or.inr (Or.inr ⟨c12, fun h => h.2 c5, c4, rfl, by rw [if_neg c1, if_neg c2, if_neg c3, if_pos c5, if_neg c4]; rfl⟩))⟩
      · exact ⟨1, by rw [if_neg c1, if_neg c2, if_neg c3, if_neg c5]; rfl, Or.inr (Or.inl ⟨c12, ⟨c3, c5⟩, rfl, by rw [if_neg c1, if_neg c2, if_neg c3, if_neg c5]; rfl⟩)⟩
  obtain ⟨en, hE⟩ := hE
  obtain ⟨r1, r2, r3⟩ := own_lay (v0_5 p0) p1 p2 HX hH hv (m0_280_b47 p0) a n ha hE
  have ok : ∀ i, i < 14 → f3 (Int32.ofNat i) (p1 &&& (7 : Int32)) (m0_280_l8 p0) (p2.toInt8.toInt32) (B0_esc p0 p1 p2 HX) (m0_280_b47 p0) = 1 := fun i hi => by
    rw [ea, en]
    exact own_core a n i ha r2 hi _ _ _ (by unfold B0_esc; rw [ea]; exact r3 i hi)
  have nz : ¬ ((1 : Int32) = (0 : Int32)) := by decide
  have q1 : m0_305_s0 p0 p1 p2 HX = 1 := by
    unfold m0_305_s0 v0_288; rw [ea, en, r1, if_pos rfl]
  have q2 : m0_368_s0 p0 p1 p2 HX = 1 := by
    unfold m0_368_s0; rw [q1, if_neg nz, show f3 (0 : Int32) _ _ _ _ _ = 1 from ok 0 (by decide), if_neg nz, show f3 (1 : Int32) _ _ _ _ _ = 1 from ok 1 (by decide), if_neg nz, show f3 (2 : Int32) _ _ _ _ _ = 1 from ok 2 (by decide), if_neg nz]
  have q3 : m0_431_s0 p0 p1 p2 HX = 1 := by
    unfold m0_431_s0; rw [q2, if_neg nz, show f3 (3 : Int32) _ _ _ _ _ = 1 from ok 3 (by decide), if_neg nz, show f3 (4 : Int32) _ _ _ _ _ = 1 from ok 4 (by decide), if_neg nz, show f3 (5 : Int32) _ _ _ _ _ = 1 from ok 5 (by decide), if_neg nz]
  have q4 : m0_497_s0 p0 p1 p2 HX = 1 := by
    unfold m0_497_s0; rw [q3, if_neg nz, show f3 (6 : Int32) _ _ _ _ _ = 1 from ok 6 (by decide), if_neg nz, show f3 (7 : Int32) _ _ _ _ _ = 1 from ok 7 (by decide), if_neg nz, show f3 (8 : Int32) _ _ _ _ _ = 1 from ok 8 (by decide), if_neg nz]
  have q5 : m0_563_s0 p0 p1 p2 HX = 1 := by
    unfold m0_563_s0; rw [q4, if_neg nz, show f3 (9 : Int32) _ _ _ _ _ = 1 from ok 9 (by decide), if_neg nz, show f3 (10 : Int32) _ _ _ _ _ = 1 from ok 10 (by decide), if_neg nz, show f3 (11 : Int32) _ _ _ _ _ = 1 from ok 11 (by decide), if_neg nz]
  have q6 : m0_611_s0 p0 p1 p2 HX = 1 := by
    unfold m0_611_s0; rw [q5, if_neg nz, show f3 (12 : Int32) _ _ _ _ _ = 1 from ok 12 (by decide), if_neg nz, show f3 (13 : Int32) _ _ _ _ _ = 1 from ok 13 (by decide), if_neg nz]
  unfold f0
  rw [q6]; rfl
theorem own_i64inj {a b : Int32} (h : a.toInt64 = b.toInt64) : a = b := Int32.toInt_inj.mp (by rw [← Int32.toInt_toInt64 a, ← Int32.toInt_toInt64 b, h])
theorem own_or {args : Array Value} {first s : State} {o : Option Outcome} {idx : List Nat} {c d : Jvm.Cond} (h : (Jvm.Cond.or c d).value args first o s idx = some true) (hc : c.value args first o s idx = some false) : d.value args first o s idx = some true := by
  simp only [Cond.value, hc] at h; exact h
theorem own_elem {args : Array Value} {s : State} {t : Term} {x : Addr} {cl : Cell} {i : Nat} {z : Int64} (ht : t.eval args s none [i] s = some (.ref x)) (hc : s.heap[x]? = some cl) (hi : i.toInt32.toNatClampNeg = i)
    (h : (Jvm.Cond.eq (.op1 .i2l (.elem t (.index 0))) (.op2 .ladd (.op1 .i2l (.index 0)) (.long z))).value args s none s [i] = some true) : ∃ y : Int32, cl.slots[i]? = some (.int y) ∧ y.toInt64 = i.toInt32.toInt64 + z := by
  obtain ⟨u, w, h1, h2, -⟩ := cmp_v (Or.inl h)
  obtain ⟨y, e1, e2⟩ := op1_v h1
  have e3 := (elem_in e1 ht (show (Term.index 0).eval args s none [i] s = some (.int i.toInt32) from rfl) hc).2
  rw [hi] at e3
  cases y with
  | int y =>
    refine ⟨y, e3, ?_⟩
    have e4 : (Term.op1 .i2l (.elem t (.index 0))).eval args s none [i] s = some (.long y.toInt64) := by rw [op1_f e1]; rfl
    exact gotT (eq_L e4 (show (Term.op2 .ladd (.op1 .i2l (.index 0)) (.long z)).eval args s none [i] s = some (.long (i.toInt32.toInt64 + z)) from rfl)) h
  | _ => simp [Unary.apply] at e2
theorem own_small : ∀ i, i < 16 → i.toInt32.toNatClampNeg = i := by decide
theorem own_hexd {s : State} {args : Array Value} {C n d : String} (y1 : (Jvm.Cond.arrayOf (.static C n d) .byte).value args s none s [] = some true) (y2 : (Jvm.Cond.eq (.length (.static C n d)) (.int 16)).value args s none s [] = some true)
    (y3 : (Jvm.Cond.all (.static C n d) (.or (.le (.int 10) (.index 0)) (.eq (.op1 .i2l (.elem (.static C n d) (.index 0))) (.op2 .ladd (.op1 .i2l (.index 0)) (.long 48))))).value args s none s [] = some true)
    (y4 : (Jvm.Cond.all (.static C n d) (.or (.lt (.index 0) (.int 10)) (.eq (.op1 .i2l (.elem (.static C n d) (.index 0))) (.op2 .ladd (.op1 .i2l (.index 0)) (.long 87))))).value args s none s [] = some true)
    (wi : (Jvm.Cond.initialized C).before args s = true) (wl : (Jvm.Cond.laysStatic C n d).before args s = true) : ∃ (wH : Addr) (HX : Nat → Int32), Sta s s.heap C n d (.ref wH) ∧ own_By s s.heap wH 16 HX ∧ own_Hs HX := by
  obtain ⟨wH, ev⟩ := arr_v y1
  obtain ⟨cl, A⟩ := Arr.start ev y1
  have hAt : s.arrayAt? wH = some cl := A.fin (State.Warmed39.refl s).alike
  have hlen := Cond.eq_int (Cond.before_iff.mpr y2) rfl
  have h31 := SBG.length_lt ev hAt hlen
  have hsz : cl.slots.size = 16 := by
    have h2 : cl.slots.size.toInt32 = 16 := by simpa using Option.some.inj ((len_f ev hAt h31).symm.trans hlen)
    have h3 := congrArg Int32.toInt h2
    rw [len_toInt h31, show (16 : Int32).toInt = 16 from rfl] at h3; omega
  have el : ∀ i, i < 16 → ∃ y : Int32, cl.slots[i]? = some (.int y) ∧ y = if i < 10 then Int32.ofNat (48 + i) else Int32.ofNat (87 + i) := fun i hi => by
    have ev' : (Term.static C n d).eval args s none [i] s = some (.ref wH) := ev
    by_cases hq : i < 10
    · have q3 := own_or (Cond.all_elim ev hAt y3 i (by omega)) (nay (Cond.le_ints rfl rfl) (by clear ev'; revert hq; clear hi; revert i; decide))
      obtain ⟨y, e1, e2⟩ := own_elem ev' A.1 (own_small i hi) q3
      refine ⟨y, e1, ?_⟩
      rw [if_pos hq]
      apply own_i64inj
      rw [e2]
      clear e1 e2 q3 ev' hi; revert hq; revert i; decide
    · have q3 := own_or (Cond.all_elim ev hAt y4 i (by omega)) (nay (Cond.lt_ints rfl rfl) (by clear ev'; revert hq; revert hi; revert i; decide))
      obtain ⟨y, e1, e2⟩ := own_elem ev' A.1 (own_small i hi) q3
      refine ⟨y, e1, ?_⟩
      rw [if_neg hq]
      apply own_i64inj
      rw [e2]
      clear e1 e2 q3 ev'; revert hq; revert hi; revert i; decide
  refine ⟨wH, fun i => if i < 10 then Int32.ofNat (48 + i) else Int32.ofNat (87 + i), Sta.start ev (Or.inr ⟨wi, wl⟩), ⟨cl, A, hsz, fun i hi => ?_⟩, fun j hj => rfl⟩
  obtain ⟨y, e1, e2⟩ := el i hi
  rw [e1, e2]

set_option maxRecDepth 65536 in
set_option maxHeartbeats 40000000 in
theorem comes_1 {Post : Tables → Env → Array Value → State → Outcome → State → Prop} (hpost : ∀ tb e args s v u, (limb_1_1.after args s (.returned v) u = true ∧ limb_1_2.after args s (.returned v) u = true ∧ True) → FrameEnd s (.returned v) u (Jvm.fieldLocs frame_1_writes args s ++ Jvm.arrayLocs frame_1_arrays args s ++ Jvm.staticLocs frame_1_statics s) 16 128 → Post tb e args s (.returned v) u) :
    ArmFor flags0 classFile x code maxLocals ret World_1 tables_1 room_1 Calls_1 rest_1 Pre_1 Post := by
  intro l hfl _ _ p e ha hc hk s m args below hf hA hF happ hP
  obtain ⟨hcalls, hrest, hpre⟩ := hP
  obtain ⟨-, -, -, hnamed, -, -, -, hat⟩ := (Spec.applies_iff hf).mp happ
  obtain ⟨hg, hn⟩ := and_e (Cond.before_iff.mp (show (Jvm.Cond.and given_1 narrow_1).before args s = true from hpre))
  obtain ⟨u1, u2⟩ := and_e hg
  obtain ⟨u3, u4⟩ := and_e u2
  obtain ⟨u5, u6⟩ := and_e u4
  obtain ⟨w0, w1, w2, rfl⟩ : ∃ w0 w1 w2 : Value, args = #[w0, w1, w2] := by
    have hs : args.size = 3 := by simpa [Cond.value, given_1] using u1
    obtain ⟨L⟩ := args
    match L, hs with
    | [w0, w1, w2], _ => exact ⟨w0, w1, w2, rfl⟩
  have hw := fun d (hd : d ∈ tables_1) => atoms_spec (ws := Jvm.Cond.code x code maxLocals ret :: tables_1) hat d (List.mem_cons_of_mem _ hd)
  have hfit : Fit s := fun {y c} hc i hi => by
    obtain ⟨ha, rfl⟩ := Array.getElem?_eq_some_iff.mp hc
    have q := List.all_eq_true.mp ((Array.all_eq_true_iff_forall_mem.mp hF) _ (Array.getElem_mem ha)) i (List.mem_range.mpr hi)
    simpa [Array.getElem?_eq_getElem hi] using q
  obtain ⟨i0, ei0⟩ := is_v u3
  obtain rfl : w0 = (.int i0) := Option.some.inj ei0
  obtain ⟨i1, ei1⟩ := is_v u5
  obtain rfl : w1 = (.int i1) := Option.some.inj ei1
  obtain ⟨i2, ei2⟩ := is_v u6
  obtain rfl : w2 = (.int i2) := Option.some.inj ei2
  obtain ⟨y1, y2⟩ := and_e hn
  obtain ⟨y3, y4⟩ := and_e y2
  obtain ⟨y5, y6⟩ := and_e y4
  obtain ⟨wH, HX, S_H, V_H, hH⟩ := own_hexd y1 y3 y5 y6 (hw _ (List.mem_of_getElem? (i := 8) rfl)) (hw _ (List.mem_of_getElem? (i := 11) rfl))
  obtain ⟨n, o, h1, h2, h3, v, L, rfl, ⟨hv, N⟩, hq⟩ := rm0 l s _ hw tables_1 i0 i1 i2 HX wH s.heap s.heap.size (Nat.le_refl _) S_H V_H p e ha hc hk s m _ below hf ((Spec.applies_iff_loose hf).mp happ).1 ⟨rfl, State.Warmed39.refl s, rfl⟩ trivial
  rw [own_law i0 i1 i2 HX hH] at hv
  subst hv
  refine ⟨n, _, h1, h2, h3, hpost _ _ _ _ _ _ ⟨Cond.after_iff.mpr rfl, Cond.after_iff.mpr (eq_i res_at (Term.int_eval (1)) rfl), trivial⟩ ⟨hq.1, hq.2.1, (hq.2.2.sift fun y hy => Or.inr (N y hy)).mono (by decide) (by decide)⟩⟩
theorem main_1_1 : Claimed_1_1 := comes_1 fun _ _ _ _ _ _ h hF => ⟨h.1, hF⟩
theorem main_1_2 : Claimed_1_2 := comes_1 fun _ _ _ _ _ _ h hF => ⟨h.2.1, hF⟩
end Jvm.Pilot.@@N@@
namespace Jvm.Pilot.@@N@@
open Jvm Jvm.ClassFile Sem Op Lib Jvm.Free Jvm.Stand Jvm.Pilot.@@N@@.Jvm.D
/-! MADE BY PROGRAM (witnessworld.py) out of the Statement's table words and the real class files: 9 classes; the members and pool entries that the words name. The judged class is class 1, her method 1. -/
namespace start1
open Jvm.ClassFile
def u (s : String) : CpInfo := .utf8 (stringToUtf16 s)
/-- a pool by its gaps: so many unusable entries, then the entry; so many at the end -/
def gap : Nat → List CpInfo → List CpInfo
  | 0, r => r
  | n + 1, r => .unusable :: gap n r
def poolList (es : List (Nat × CpInfo)) (last : Nat) : List CpInfo := es.foldr (fun e r => gap e.1 (e.2 :: r)) (gap last [])
def pool (es : List (Nat × CpInfo)) (last : Nat) : Array CpInfo := ⟨poolList es last⟩
def fileOf (pool : Array CpInfo) (this : Nat) (attrs : Array Attribute := #[]) (ms : Array MethodInfo := #[]) (fl : Nat := 33) (sup : Nat := 0) (ifs : Array Nat := #[]) (fds : Array FieldInfo := #[]) : ClassFile where
  minorVersion := 0
  majorVersion := 65
  constantPool := pool
  accessFlags := fl
  thisClass := this
  superClass := sup
  interfaces := ifs
  fields := fds
  methods := ms
  attributes := attrs
def plain (name : String) (sup : Option ClassId) : Class where
  name := name
  kind := .ordinary
  loader := none
  accessFlags := 33
  super := sup
  interfaces := #[]
  cf := none
  fields := #[]
  methods := #[]
  instanceTypes := #[]
  staticTypes := #[]
  resolved := #[]
  callSites := []
  init := .initialized
  statics := none
  mirror := none

def pool0 : Array CpInfo := pool [(5, u "<init>"), (0, u "()V"), (1, .class_ 10), (1, u "java/lang/Object")] 113

def k0m0 : Method := { name := "<init>", desc := "()V", sig := { parameters := [], returnType := none }, accessFlags := 1, code := none }
/-- java/lang/Object -/
def k0 : Class := { plain "java/lang/Object" none with
  accessFlags := 33
  interfaces := #[]
  cf := some (fileOf pool0 8 #[] #[{ accessFlags := 1, nameIndex := 5, descriptorIndex := 6, attributes := #[] }] 33 0 #[] #[])
  fields := #[]
  methods := #[k0m0]
  instanceTypes := #[]
  staticTypes := #[]
  resolved := Array.replicate 124 none
  statics := none }

def pool1 : Array CpInfo := pool [(2, .class_ 4), (1, u "java/lang/Object"), (0, u "<init>"), (0, u "()V"), (0, .integer 65535), (0, .methodref 9 10), (0, .class_ 11), (0, .nameAndType 12 13), (0, u "com/example/segmentry/segmentry/io/JsonTextEscapePinLaw"), (0, u "hex"), (0, u "(I)B"), (0, .methodref 15 16), (0, .class_ 17), (0, .nameAndType 18 19), (0, u "com/example/segmentry/segmentry/io/JsonText"), (0, u "escape"), (0, u "(C[BI)I"), (0, .methodref 9 21), (0, .nameAndType 22 23), (0, u "ok"), (0, u "([BIII[BB)Z"), (2, u "law"), (0, u "(III)Z")] 5

def k1m0 : Method := { name := "<init>", desc := "()V", sig := { parameters := [], returnType := none }, accessFlags := 1, code := none }
def k1c1 : Code := { maxStack := 6, maxLocals := 12, code := code, exceptionTable := #[], attributes := #[] }
def k1m1 : Method := { name := "law", desc := "(III)Z", sig := { parameters := [.int, .int, .int], returnType := some .boolean }, accessFlags := 9, code := some k1c1 }
def k1c2 : Code := { maxStack := 2, maxLocals := 1, code := method_3_code, exceptionTable := #[], attributes := #[] }
def k1m2 : Method := { name := "hex", desc := "(I)B", sig := { parameters := [.int], returnType := some .byte }, accessFlags := 10, code := some k1c2 }
def k1c3 : Code := { maxStack := 2, maxLocals := 8, code := method_4_code, exceptionTable := #[], attributes := #[] }
def k1m3 : Method := { name := "ok", desc := "([BIII[BB)Z", sig := { parameters := [(.array .byte), .int, .int, .int, (.array .byte), .byte], returnType := some .boolean }, accessFlags := 10, code := some k1c3 }
/-- com/example/segmentry/segmentry/io/JsonTextEscapePinLaw -/
def k1 : Class := { plain "com/example/segmentry/segmentry/io/JsonTextEscapePinLaw" (some 0) with
  accessFlags := 49
  interfaces := #[]
  cf := some (fileOf pool1 9 #[] #[{ accessFlags := 1, nameIndex := 5, descriptorIndex := 6, attributes := #[] }, { accessFlags := 9, nameIndex := 26, descriptorIndex := 27, attributes := #[] }, { accessFlags := 10, nameIndex := 12, descriptorIndex := 13, attributes := #[] }, { accessFlags := 10, nameIndex := 22, descriptorIndex := 23, attributes := #[] }] 49 2 #[] #[])
  fields := #[]
  methods := #[k1m0, k1m1, k1m2, k1m3]
  instanceTypes := #[]
  staticTypes := #[]
  resolved := Array.replicate 33 none
  statics := none }

def pool2 : Array CpInfo := pool [(2, .class_ 4), (1, u "java/lang/Object"), (0, u "<init>"), (0, u "()V"), (0, .class_ 8), (0, u "com/example/segmentry/segmentry/io/JsonText"), (12, u "escape"), (0, u "(C[BI)I"), (9, .fieldref 7 33), (0, .nameAndType 34 35), (0, u "HEX_DIGITS"), (0, u "[B"), (6, u "LONGEST_ESCAPE"), (0, u "I")] 11

def k2m0 : Method := { name := "<init>", desc := "()V", sig := { parameters := [], returnType := none }, accessFlags := 2, code := none }
def k2c1 : Code := { maxStack := 5, maxLocals := 3, code := prog_25_method_3_code, exceptionTable := #[], attributes := #[] }
def k2m1 : Method := { name := "escape", desc := "(C[BI)I", sig := { parameters := [.char, (.array .byte), .int], returnType := some .int }, accessFlags := 9, code := some k2c1 }
/-- com/example/segmentry/segmentry/io/JsonText -/
def k2 : Class := { plain "com/example/segmentry/segmentry/io/JsonText" (some 0) with
  accessFlags := 49
  interfaces := #[]
  cf := some (fileOf pool2 7 #[] #[{ accessFlags := 2, nameIndex := 5, descriptorIndex := 6, attributes := #[] }, { accessFlags := 9, nameIndex := 21, descriptorIndex := 22, attributes := #[] }] 49 2 #[] #[{ accessFlags := 25, nameIndex := 42, descriptorIndex := 43, attributes := #[] }, { accessFlags := 26, nameIndex := 34, descriptorIndex := 35, attributes := #[] }])
  fields := #[{ name := "LONGEST_ESCAPE", type := .int, accessFlags := 25, slot := 0, constantValue := 0 }, { name := "HEX_DIGITS", type := (.array .byte), accessFlags := 26, slot := 1, constantValue := 0 }]
  methods := #[k2m0, k2m1]
  instanceTypes := #[]
  staticTypes := #[.int, (.array .byte)]
  resolved := Array.replicate 55 none
  statics := some 0 }

def pool3 : Array CpInfo := pool [(1, u "java/lang/Cloneable"), (0, .class_ 1), (0, u "java/lang/Object"), (0, .class_ 3)] 3

/-- java/lang/Cloneable -/
def k3 : Class := { plain "java/lang/Cloneable" (some 0) with
  accessFlags := 1537
  interfaces := #[]
  cf := some (fileOf pool3 2 #[] #[] 1537 4 #[] #[])
  fields := #[]
  methods := #[]
  instanceTypes := #[]
  staticTypes := #[]
  resolved := Array.replicate 8 none
  statics := none }

def pool4 : Array CpInfo := pool [(1, u "java/io/Serializable"), (0, .class_ 1), (0, u "java/lang/Object"), (0, .class_ 3)] 3

/-- java/io/Serializable -/
def k4 : Class := { plain "java/io/Serializable" (some 0) with
  accessFlags := 1537
  interfaces := #[]
  cf := some (fileOf pool4 2 #[] #[] 1537 4 #[] #[])
  fields := #[]
  methods := #[]
  instanceTypes := #[]
  staticTypes := #[]
  resolved := Array.replicate 8 none
  statics := none }

/-- the primitive byte -/
def k5 : Class := { plain "byte" none with kind := .primitive 'B', accessFlags := 0x411 }
/-- [B -/
def k6 : Class := { plain "[B" (some 0) with kind := .array 5 .byte, interfaces := #[3, 4], accessFlags := 1041 }

/-- the primitive int -/
def k7 : Class := { plain "int" none with kind := .primitive 'I', accessFlags := 0x411 }
/-- [I -/
def k8 : Class := { plain "[I" (some 0) with kind := .array 7 .int, interfaces := #[3, 4], accessFlags := 1041 }

def heap : Heap := #[{ cls := 2, slots := #[.int 0, .ref 1], vm := .statics 2 },
  { cls := 6, slots := #[.int 48, .int 49, .int 50, .int 51, .int 52, .int 53, .int 54, .int 55, .int 56, .int 57, .int 97, .int 98, .int 99, .int 100, .int 101, .int 102], vm := .none }]
def classes : Array Class := #[k0, k1, k2, k3, k4, k5, k6, k7, k8]
def interned : List (Array UInt16 × Addr) := []
def slotsUsed : Nat := 18
def theMethod : MethodId := ⟨1, 1⟩
def args0 : Array Value := #[.int 5, .int 7, .int 3]
def aboutOver (below : List Frame) : State where
  vm := { classes := classes, interned := interned.toArray }
  heap := heap
  slotsUsed := slotsUsed
  threads := #[{ frames := .invoking theMethod args0 :: below }]
def below0 : List Frame := [.native { method := ⟨0, 0⟩, args := #[] }]
def about1 : State := aboutOver below0
def p0 : Program := .bare "" "" ""
def e0 : Env := launch0.env 0 0 0
theorem w_frames : about1.frames = Frame.invoking theMethod args0 :: below0 := rfl
set_option maxRecDepth 65536 in
theorem w_args : argsFit about1.vm theMethod args0 = true := by decide +kernel
set_option maxRecDepth 65536 in
theorem w_heap : heapFits about1 = true := by decide +kernel
set_option maxRecDepth 65536 in
theorem w_runnable : about1.curStatus? = some .runnable := by decide +kernel
set_option maxRecDepth 65536 in
theorem w_alone : about1.alone = true := by decide +kernel
set_option maxRecDepth 65536 in
theorem w_named : about1.methodNamed? x = some theMethod := by decide +kernel
set_option maxRecDepth 65536 in
theorem w_hears : about1.hears theMethod below0 = true := by decide +kernel
set_option maxRecDepth 65536 in
theorem w_ripe : about1.ripe theMethod args0 below0 = true := by decide +kernel
theorem w_running : about1.status = .running := rfl
set_option maxRecDepth 65536 in
theorem w_room : about1.hasRoom e0.platform room_1 = true :=
  launch0.hasRoom_least _ room_1 (by decide +kernel) (by decide +kernel) (by decide +kernel) (by decide +kernel) (by decide +kernel) (by decide +kernel)
theorem allAtoms_all (ts : List Jvm.Cond) (a : Array Jvm.Value) (st : Jvm.State) : (allAtoms ts).before a st = ts.all (fun c => c.before a st) := by
  induction ts with
  | nil => rfl
  | cons c t ih =>
    show (Jvm.Cond.and c (allAtoms t)).before a st = _
    rw [Jvm.Cond.before_and, ih, List.all_cons]
def words1 : List Jvm.Cond := Jvm.Cond.code x code maxLocals ret :: tables_1
/-- a 'code' word, met by the world's own term for the bytes: nothing is compared byte by byte -/
theorem code_word {y : MethodName} {bytes : ByteArray} {mx : Nat} {rt : Option FieldType} {a : Array Value} {s : State} {m : MethodId} {meth : Method} {c : Code} (h1 : s.methodNamed? y = some m) (h2 : s.vm.method? m = some meth) (h3 : meth.code = some c) (h4 : c.code = bytes)
    (h5 : (c.maxLocals == mx && c.exceptionTable.isEmpty && decide (c.maxStack ≤ mostOperands) && decide (meth.sig.returnType = rt) && !meth.locks && decide (parseMethodDescriptor y.desc = some meth.sig)) = true) : (Jvm.Cond.code y bytes mx rt).before a s = true := by
  simp only [Bool.and_eq_true, beq_iff_eq, Bool.not_eq_true', decide_eq_true_eq] at h5
  obtain ⟨⟨⟨⟨⟨g1, g2⟩, g3⟩, g4⟩, g5⟩, g6⟩ := h5
  simp [Cond.before, Cond.holds, Cond.value, h1, h2, h3, h4, g1, g2, g3, g4, g5, g6]
def isCode : Jvm.Cond → Bool
  | .code _ _ _ _ => true
  | _ => false
theorem all_split {L : List Jvm.Cond} {P : Jvm.Cond → Bool} (h1 : L.all (fun c => isCode c || P c) = true) (h2 : ∀ c ∈ L.filter isCode, P c = true) : L.all P = true := by
  refine List.all_eq_true.mpr fun c hc => ?_
  have h := List.all_eq_true.mp h1 c hc
  rcases Bool.eq_false_or_eq_true (isCode c) with hi | hi
  · exact h2 c (List.mem_filter.mpr ⟨hc, hi⟩)
  · simpa [hi] using h
set_option maxRecDepth 65536 in
theorem w_c0 : (Jvm.Cond.code x code maxLocals ret).before args0 about1 = true := code_word (m := ⟨1, 1⟩) (meth := k1m1) (c := k1c1) (by decide +kernel) rfl rfl rfl (by decide +kernel)
set_option maxRecDepth 65536 in
theorem w_c1 : (Jvm.Cond.code ({ cls := "com/example/segmentry/segmentry/io/JsonTextEscapePinLaw", name := "hex", desc := "(I)B" } : Jvm.MethodName) method_3_code (1 : Nat) (Option.some Jvm.ClassFile.FieldType.byte)).before args0 about1 = true := code_word (m := ⟨1, 2⟩) (meth := k1m2) (c := k1c2) (by decide +kernel) rfl rfl rfl (by decide +kernel)
set_option maxRecDepth 65536 in
theorem w_c2 : (Jvm.Cond.code ({ cls := "com/example/segmentry/segmentry/io/JsonText", name := "escape", desc := "(C[BI)I" } : Jvm.MethodName) prog_25_method_3_code (3 : Nat) (Option.some Jvm.ClassFile.FieldType.int)).before args0 about1 = true := code_word (m := ⟨2, 1⟩) (meth := k2m1) (c := k2c1) (by decide +kernel) rfl rfl rfl (by decide +kernel)
set_option maxRecDepth 65536 in
theorem w_c3 : (Jvm.Cond.code ({ cls := "com/example/segmentry/segmentry/io/JsonTextEscapePinLaw", name := "ok", desc := "([BIII[BB)Z" } : Jvm.MethodName) method_4_code (8 : Nat) (Option.some Jvm.ClassFile.FieldType.boolean)).before args0 about1 = true := code_word (m := ⟨1, 3⟩) (meth := k1m3) (c := k1c3) (by decide +kernel) rfl rfl rfl (by decide +kernel)
def codes1 : List Jvm.Cond := [Jvm.Cond.code x code maxLocals ret, Jvm.Cond.code ({ cls := "com/example/segmentry/segmentry/io/JsonTextEscapePinLaw", name := "hex", desc := "(I)B" } : Jvm.MethodName) method_3_code (1 : Nat) (Option.some Jvm.ClassFile.FieldType.byte), Jvm.Cond.code ({ cls := "com/example/segmentry/segmentry/io/JsonText", name := "escape", desc := "(C[BI)I" } : Jvm.MethodName) prog_25_method_3_code (3 : Nat) (Option.some Jvm.ClassFile.FieldType.int), Jvm.Cond.code ({ cls := "com/example/segmentry/segmentry/io/JsonTextEscapePinLaw", name := "ok", desc := "([BIII[BB)Z" } : Jvm.MethodName) method_4_code (8 : Nat) (Option.some Jvm.ClassFile.FieldType.boolean)]
set_option maxRecDepth 65536 in
theorem codes_eq : words1.filter isCode = codes1 := rfl
theorem w_codes : ∀ c ∈ words1.filter isCode, c.before args0 about1 = true := by
  rw [codes_eq]
  intro c hc
  simp only [codes1, List.mem_cons, List.not_mem_nil, or_false] at hc
  rcases hc with rfl | rfl | rfl | rfl
  · exact w_c0
  · exact w_c1
  · exact w_c2
  · exact w_c3
set_option maxRecDepth 65536 in
theorem w_t1 : words1.all (fun c => isCode c || c.before args0 about1) = true := by decide +kernel
theorem w_tables : (allAtoms (Jvm.Cond.code x code maxLocals ret :: tables_1)).before args0 about1 = true := by
  rw [allAtoms_all]
  show words1.all (fun c => c.before args0 about1) = true
  refine all_split ?_ w_codes
  rw [w_t1]
set_option maxRecDepth 65536 in
theorem w_case : (Jvm.Cond.and given_1 narrow_1).before args0 about1 = true := by decide +kernel
theorem w_applies : (headSpec (Jvm.Cond.code x code maxLocals ret :: tables_1) room_1).applies x e0.platform about1 = true :=
  (Spec.applies_iff w_frames).mpr ⟨w_running, w_runnable, w_alone, w_named, w_hears, w_ripe, w_room, w_tables⟩
theorem atStart : AtStart classFile x code maxLocals ret World_1 tables_1 room_1 Calls_1 rest_1 Pre_1 launch0 p0 e0 about1 theMethod args0 below0 :=
  ⟨lists_1, trivial, launch0.admits_env _ _ _, launch0.least_env, fairChoices_fair.cas, fairChoices_fair.clock, w_frames, w_args, w_heap, w_applies, trivial, trivial, w_case⟩
end start1
theorem witness_1 : WitnessClaimed_1 := ⟨start1.p0, start1.e0, start1.about1, start1.theMethod, start1.args0, start1.below0, start1.atStart⟩
end Jvm.Pilot.@@N@@

import JvmDerived
import JvmDerived.Pilot.@@N@@Statement
import JvmDerived.Pilot.@@N@@Code
set_option linter.unusedVariables false
set_option linter.unusedSimpArgs false
namespace Jvm.RoadKit
open Sem ClassFile Op Lib Jvm.Stand Jvm.Free Jvm.LawKit
section New
variable {p : Program} {l : Launch} {e : Env} {R : Room} {s : State} {m : MethodId} {args : Array Value} {below : List Frame} {meth : Method} {c : Code} {T : State} {locs : List Loc} {cells slots : Nat}
theorem retI (X : Stand p l e R s m args below meth c T locs cells slots) (hx : p.tables.exec = Jvm.exec) {pc : Nat} {Ls : Array Slot} {z : Int32} {rest : List Value} (hret : meth.sig.returnType = some .int) (hd : decode c.code pc = .ok (.ireturn, 1)) {fs : List Frame}
    (hl : ∀ (f : JFrame) (acts : List Action), f.method = m → f.locked = none → f.entered = [] → (doReturn e (T.setTop f) acts (some (.int z))).1 = T.setFrames fs) : Steps p.tables e below (T.setTop (mkF m pc Ls (.int z :: rest))) (T.setFrames fs) := by
  have hm' : T.vm.method? m = some meth := X.method'
  have hn : narrow .int (.int z) = .int z := rfl
  show Steps p.tables e below (T.setTop { method := m, pc := pc, locals := Ls, stack := _ :: rest, locked := none }) _
  jvm_step X.here [X.here.top, hx, hd, hm', hret, hn]
  first | (intro acts; rw [hl _ acts rfl rfl rfl]) | rw [hl _ _ rfl rfl rfl]
  exact Steps.refl _
theorem retJ (X : Stand p l e R s m args below meth c T locs cells slots) (hx : p.tables.exec = Jvm.exec) {pc : Nat} {Ls : Array Slot} {z : Int64} {rest : List Value} (hret : meth.sig.returnType = some .long) (hd : decode c.code pc = .ok (.lreturn, 1)) {fs : List Frame}
    (hl : ∀ (f : JFrame) (acts : List Action), f.method = m → f.locked = none → f.entered = [] → (doReturn e (T.setTop f) acts (some (.long z))).1 = T.setFrames fs) : Steps p.tables e below (T.setTop (mkF m pc Ls (.long z :: rest))) (T.setFrames fs) := by
  have hm' : T.vm.method? m = some meth := X.method'
  have hn : narrow .long (.long z) = .long z := rfl
  show Steps p.tables e below (T.setTop { method := m, pc := pc, locals := Ls, stack := _ :: rest, locked := none }) _
  jvm_step X.here [X.here.top, hx, hd, hm', hret, hn]
  first | (intro acts; rw [hl _ acts rfl rfl rfl]) | rw [hl _ _ rfl rfl rfl]
  exact Steps.refl _
end New
end Jvm.RoadKit
@@BLOCK:NumsL.lean.txt@@
namespace Jvm.Pilot.@@N@@
open Jvm Jvm.ClassFile Sem Op Lib Jvm.Free Jvm.Stand Jvm.LawKit Jvm.RoadKit Bundle Jvm.Pilot.@@N@@.Jvm.D
/-- the run comes from A to B -/
abbrev own_Go (p : Program) (e : Env) (below : List Frame) (A B : State) : Prop := ∀ t, Steps p.tables e below B t → Steps p.tables e below A t
/-! byte arrays as plain functions of the place -/
def own_up (B : Nat → Int32) (i : Nat) (v : Int32) : Nat → Int32 := fun j => if j = i then v else B j
def own_By (Z : State) (h : Heap) (a : Addr) (n : Nat) (B : Nat → Int32) : Prop := ∃ c : Cell, Arr Z h a c .byte ∧ c.slots.size = n ∧ ∀ i, i < n → c.slots[i]? = some (.int (B i))
section By
variable {Z : State} {h h' : Heap} {a b : Addr} {n sl : Nat} {B : Nat → Int32} {v : Value} {ws : List Addr}
theorem own_By.lt (F : own_By Z h a n B) : a < h.size := by obtain ⟨c, A, -⟩ := F; exact A.lt
theorem own_By.ext (F : own_By Z h a n B) (E : Ext h h') : own_By Z h' a n B := by obtain ⟨c, A, r⟩ := F; exact ⟨c, A.ext E, r⟩
theorem own_By.other (F : own_By Z h a n B) (W : Wr h h' b sl v) (q : a ≠ b) : own_By Z h' a n B := by obtain ⟨c, A, r⟩ := F; exact ⟨c, A.other W q, r⟩
theorem own_By.keep (F : own_By Z h a n B) (K : Keep h h' ws) (q : a ∉ ws) : own_By Z h' a n B := by obtain ⟨c, A, r⟩ := F; exact ⟨c, ⟨K.2.1 a c A.1 q, A.2⟩, r⟩
theorem own_By.new {k : ClassId} {z : Int32} (A : Arr Z h a (newA k .byte z) .byte) (hz : z.toNatClampNeg = n) : own_By Z h a n (fun _ => 0) :=
  ⟨_, A, by rw [sz_new, hz], fun i hi => by simp [newA, hz, hi, defaultValue]⟩
theorem own_By.set (F : own_By Z h a n B) {i : Nat} {x : Int32} (W : Wr h h' a i (.int x)) (hi : i < n) : own_By Z h' a n (own_up B i x) := by
  obtain ⟨c, A, S, H⟩ := F
  refine ⟨c.setSlot i (.int x), A.same W, by rw [sz_set, S], fun j hj => ?_⟩
  unfold own_up
  by_cases e : j = i
  · subst e; rw [if_pos rfl]; simp [Cell.setSlot, S, hj]
  · rw [if_neg e]; show (c.slots.setIfInBounds i (.int x))[j]? = _; rw [Array.getElem?_setIfInBounds_ne (Ne.symm e)]; exact H j hj
variable {p : Program} {l : Launch} {e : Env} {R : Room} {s : State} {m : MethodId} {args : Array Value} {below : List Frame} {meth : Method} {c : Code} {T : State} {locs : List Loc} {cells slots : Nat}
theorem own_bst (X : Stand p l e R s m args below meth c T locs cells slots) (hx : p.tables.exec = Jvm.exec) (hZ : Z.Warmed39 s.vm) (eT : T.heap = h) (F : own_By Z h a n B) {j x : Int32} (hj0 : ¬ j < 0) (hj1 : j.toNatClampNeg < n) {g : JFrame} (hg : g.method = m) {rest : List Value} (hs : g.stack = .int x :: .int j :: .ref a :: rest) (hd : decode c.code g.pc = .ok (.bastore, 1)) :
    ∃ T' h', Stand p l e R s m args below meth c T' (locs ++ [⟨a, j.toNatClampNeg⟩]) cells slots ∧ T'.heap = h' ∧ Wr h h' a j.toNatClampNeg (.int x.toInt8.toInt32) ∧ own_By Z h' a n (own_up B j.toNatClampNeg x.toInt8.toInt32) ∧ ∀ target, Steps p.tables e below (T'.setTop { g with pc := g.pc + 1, stack := rest }) target → Steps p.tables e below (T.setTop g) target := by
  obtain ⟨cl, A, S, H⟩ := F
  obtain ⟨T', h', X', e', W, st⟩ := stB X hx hZ eT A (j := j) (fun q => q.elim hj0 fun r => absurd hj1 (by rw [← S]; omega)) hg hs hd
  exact ⟨T', h', X', e', W, own_By.set ⟨cl, A, S, H⟩ W hj1, st⟩
theorem own_bld (X : Stand p l e R s m args below meth c T locs cells slots) (hx : p.tables.exec = Jvm.exec) (hZ : Z.Warmed39 s.vm) (eT : T.heap = h) (F : own_By Z h a n B) {j : Int32} (hj0 : ¬ j < 0) (hj1 : j.toNatClampNeg < n) {g : JFrame} (hg : g.method = m) {rest : List Value} (hs : g.stack = .int j :: .ref a :: rest) (hd : decode c.code g.pc = .ok (.baload, 1)) :
    ∀ target, Steps p.tables e below (T.setTop { g with pc := g.pc + 1, stack := .int (B j.toNatClampNeg) :: rest }) target → Steps p.tables e below (T.setTop g) target := by
  obtain ⟨cl, A, S, H⟩ := F
  intro target hr
  exact X.baloadBytes hx (j := j) (v := .int (B j.toNatClampNeg)) (by rw [eT]; exact A.1) (State.isArrayOf_alike hZ.alike A.2.1) A.2.2 (fun q => q.elim hj0 fun r => absurd hj1 (by rw [← S]; omega)) (H _ hj1) hg hs hd target hr
end By

/-! bytes by a list; the words on Strings -/
def own_tab (L : List Int32) : Nat → Int32 := fun i => L.getD i 0
theorem own_By.ofArv {Z : State} {h : Heap} {a : Addr} {k : ClassId} {z : Int32} {L : List Int32} {n : Nat} (F : Arv Z h a k .byte z (L.map Value.int) (.int 0)) (hz : z.toNatClampNeg = n) : own_By Z h a n (own_tab L) := by
  obtain ⟨c, A, -, S, -, H, -⟩ := F
  refine ⟨c, A, by rw [S, hz], fun i hi => ?_⟩
  rw [H i (by rw [S, hz]; exact hi)]
  unfold own_tab
  simp only [List.getD_eq_getElem?_getD, List.getElem?_map]
  cases L[i]? <;> rfl
section Bln
variable {p : Program} {l : Launch} {e : Env} {R : Room} {s : State} {m : MethodId} {args : Array Value} {below : List Frame} {meth : Method} {c : Code} {T : State} {locs : List Loc} {cells slots : Nat} {Z : State} {h : Heap} {a : Addr} {n : Nat} {B : Nat → Int32}
theorem own_bln (X : Stand p l e R s m args below meth c T locs cells slots) (hx : p.tables.exec = Jvm.exec) (hZ : Z.Warmed39 s.vm) (eT : T.heap = h) (F : own_By Z h a n B) {z : Int32} (hz : n.toInt32 = z) {g : JFrame} (hg : g.method = m) {rest : List Value} (hs : g.stack = .ref a :: rest) (hd : decode c.code g.pc = .ok (.arraylength, 1)) :
    ∀ target, Steps p.tables e below (T.setTop { g with pc := g.pc + 1, stack := .int z :: rest }) target → Steps p.tables e below (T.setTop g) target := by
  obtain ⟨cl, A, S, H⟩ := F
  subst hz; subst S
  intro target hr
  exact X.arraylength hx (by rw [eT]; exact A.1) (State.isArrayOf_alike hZ.alike A.2.1) hg hs hd target hr
end Bln

theorem own_c16 {x : Int32} (h0 : ¬ x < (0 : Int32)) (h1 : x < (16 : Int32)) : x.toNatClampNeg < 16 := by
  rw [Int32.lt_iff_toInt_lt] at h0 h1
  have e0 : (0 : Int32).toInt = 0 := rfl
  have e1 : (16 : Int32).toInt = 16 := rfl
  show x.toInt.toNat < 16; omega
theorem own_n15 (p : Int32) : ¬ (p &&& (15 : Int32)) < (0 : Int32) ∧ (p &&& (15 : Int32)) < (16 : Int32) := by
  have e := Jvm.Kit.i32_mask p 15 (k := 4) (by decide) (by decide)
  have e0 : (0 : Int32).toInt = 0 := rfl
  have e1 : (16 : Int32).toInt = 16 := rfl
  rw [Int32.lt_iff_toInt_lt, Int32.lt_iff_toInt_lt]; omega
theorem own_lt16 {x : Int32} (h : ¬ (15 : Int32) < x) : x < (16 : Int32) := by
  rw [Int32.lt_iff_toInt_lt] at h ⊢
  have e0 : (15 : Int32).toInt = 15 := rfl
  have e1 : (16 : Int32).toInt = 16 := rfl
  omega
theorem own_notz {args : Array Value} {s : State} {t : Term} {w : Int32} (ev : t.eval args s none [] s = some (.int w)) (h : (Jvm.Cond.not (.eq t (.int 0))).before args s = true) : ¬ w = (0 : Int32) := by
  have h2 := not_v (Cond.before_iff.mp h)
  intro q
  subst q
  rw [eq_i ev (Term.int_eval 0) rfl] at h2
  cases h2

theorem own_wS {a0 : Array Value} {Z : State} (hw : ∀ d ∈ tables_1, d.before a0 Z = true) : ∀ a ∈ Bundle.stringAtoms, a.before a0 Z = true := by
  intro a ha
  simp only [Bundle.stringAtoms, List.mem_cons, List.not_mem_nil, or_false] at ha
  rcases ha with rfl | rfl | rfl | rfl | rfl | rfl | rfl
  · exact (hw _ (List.mem_of_getElem? (i := 1) rfl))
  · exact (hw _ (List.mem_of_getElem? (i := 2) rfl))
  · exact (hw _ (List.mem_of_getElem? (i := 3) rfl))
  · exact (hw _ (List.mem_of_getElem? (i := 4) rfl))
  · exact (hw _ (List.mem_of_getElem? (i := 5) rfl))
  · exact (hw _ (List.mem_of_getElem? (i := 6) rfl))
  · exact (hw _ (List.mem_of_getElem? (i := 7) rfl))
theorem own_since_refl (s : State) (vm : Vm) : (s.setVm vm).Since vm 0 := State.WarmedH.since (State.WarmedH.refl (s.setVm vm)) 0
theorem own_since_up {s : State} {vm1 vm2 : Vm} {n1 n2 k : Nat} (h1 : s.Since vm1 n1) (h2 : (s.setVm vm1).Since vm2 n2) (g1 : n1 ≤ k) (g2 : n2 ≤ k) : s.Since vm2 k := by
  have h3 : (s.setVm vm1).Since vm2 k := ⟨h2.1, fun j p hj hp => ⟨(h2.2 j p hj hp).1, Nat.lt_of_lt_of_le (h2.2 j p hj hp).2 g2⟩⟩
  exact h1.trans h3 g1
theorem pn_0 : plainName "jdk/internal/util/Preconditions" = true := by first | (simp [plainName, overriddenIn]; done) | decide +kernel
theorem d5_0 : decode jdk_41_method_11_code 0 = .ok (.iload_n 0, 1) := by decide +kernel
theorem d5_1 : decode jdk_41_method_11_code 1 = .ok (.ifCond .lt 8, 3) := by decide +kernel
theorem d5_4 : decode jdk_41_method_11_code 4 = .ok (.iload_n 0, 1) := by decide +kernel
theorem d5_5 : decode jdk_41_method_11_code 5 = .ok (.iload_n 1, 1) := by decide +kernel
theorem d5_6 : decode jdk_41_method_11_code 6 = .ok (.if_icmp .lt 10, 3) := by decide +kernel
theorem d5_16 : decode jdk_41_method_11_code 16 = .ok (.iload_n 0, 1) := by decide +kernel
theorem d5_17 : decode jdk_41_method_11_code 17 = .ok (.ireturn, 1) := by decide +kernel
theorem ef_5 (m : MethodId) (p0 : Int32) (p1 : Int32) (wF : Value) (hF : wF.isRef = true) : entryFrame m #[(.int p0), (.int p1), wF] 3 = mkF m 0 #[.val (.int p0), .val (.int p1), .val wF] [] := by
  rcases ref_cases hF with rfl | ⟨a, rfl⟩
  · first | (simp [entryFrame, mkF, argsToLocals, Value.category]; done) | rfl
  · first | (simp [entryFrame, mkF, argsToLocals, Value.category]; done) | rfl
def f5 (p0 : Int32) (p1 : Int32) : Int32 := p0
def Q5 (Z : State) (p0 : Int32) (p1 : Int32) (wF : Value) (h0 : Heap) (n0 : Nat) (v : Option Value) (h : Heap) (L : List Loc) : Prop := v = some (.int (f5 p0 p1)) ∧ Fr n0 L ∧ h = h0
set_option maxRecDepth 65536 in
set_option maxHeartbeats 40000000 in
theorem rm5 (l : Launch) (Z : State) (a0 : Array Value) (hw : ∀ d ∈ tables_1, d.before a0 Z = true) (ws : List Jvm.Cond) (p0 : Int32) (p1 : Int32) (wF : Value) (h0 : Heap) (n0 : Nat) (Z0 : n0 ≤ h0.size) (hF : wF.isRef = true) (hlo : ¬ p0 < (0 : Int32)) (hhi : p0 < p1) :
    MetFree l (⟨"jdk/internal/util/Preconditions", "checkIndex", "(IILjava/util/function/BiFunction;)I"⟩ : MethodName) (head1 (Jvm.Cond.code (⟨"jdk/internal/util/Preconditions", "checkIndex", "(IILjava/util/function/BiFunction;)I"⟩ : MethodName) jdk_41_method_11_code 3 (some .int) :: ws) ({ frames := 0, cells := 0, slots := 0, locals := 0 } : Room)) (fun a U => a = #[(.int p0), (.int p1), wF] ∧ Z.Warmed39 U.vm ∧ U.heap = h0) (fun _ _ _ _ _ => True) (fun _ U o U' => ∃ v L, o = .returned v ∧ Q5 Z p0 p1 wF h0 n0 v U'.heap L ∧ FrameEnd U o U' L ({ frames := 0, cells := 0, slots := 0, locals := 0 } : Room).cells ({ frames := 0, cells := 0, slots := 0, locals := 0 } : Room).slots) := by
  refine MetFree.of_bodySF (plainFor_of_name pn_0) hisR ?_
  intro p e s m args below meth c s₁ Bd hml0 hP hK
  obtain ⟨rfl, hZ, hh⟩ := hP
  have hx := Bd.exec
  have hby := Bd.bytes
  have hml : c.maxLocals = 3 := hml0
  have hown : s.vm.findClass "jdk/internal/util/Preconditions" = some m.cls := findClass_of_methodNamed Bd.named
  have hnm := (name_of_methodNamed Bd.named Bd.method).1
  have X0 : Stand p l e ({ frames := 0, cells := 0, slots := 0, locals := 0 } : Room) s m #[(.int p0), (.int p1), wF] below meth c s₁ [] 0 0 := Stand.of_body Bd
  have e0 : s₁.heap = h0 := by rw [← hh, Bd.state]; rfl
  have N0 := Fr.nil n0
  have pre0 : own_Go p e below (s₁.setTop (entryFrame m #[(.int p0), (.int p1), wF] 3)) (s₁.setTop (mkF m 0 #[.val (.int p0), .val (.int p1), .val wF] [])) := fun t k => castTop (ef_5 m p0 p1 wF hF) k
  have k1 : own_Go p e below (s₁.setTop (entryFrame m #[(.int p0), (.int p1), wF] 3)) (s₁.setTop (mkF m 17 #[.val (.int p0), .val (.int p1), .val wF] [(.int p0)])) := by
    intro t k
    refine pre0 t ?_
    show Steps p.tables e below (s₁.setTop (mkF m 0 #[.val (.int p0), .val (.int p1), .val wF] [])) t
    refine XS.iloadN X0.here hx rfl (hb hby d5_0) rfl ?_
    show Steps p.tables e below (s₁.setTop (mkF m 1 #[.val (.int p0), .val (.int p1), .val wF] [(.int p0)])) t
    refine XS.ifNo X0.here hx rfl (hb hby d5_1) rfl ((if0 _ _).trans (flt hlo).1) ?_
    show Steps p.tables e below (s₁.setTop (mkF m 4 #[.val (.int p0), .val (.int p1), .val wF] [])) t
    refine XS.iloadN X0.here hx rfl (hb hby d5_4) rfl ?_
    show Steps p.tables e below (s₁.setTop (mkF m 5 #[.val (.int p0), .val (.int p1), .val wF] [(.int p0)])) t
    refine XS.iloadN X0.here hx rfl (hb hby d5_5) rfl ?_
    show Steps p.tables e below (s₁.setTop (mkF m 6 #[.val (.int p0), .val (.int p1), .val wF] [(.int p1), (.int p0)])) t
    refine XS.icmpYes X0.here hx rfl (pc0 := 6) (pc' := 16) rfl (hb hby d5_6) rfl (tlt hhi).1 (by decide) (by decide) ?_
    show Steps p.tables e below (s₁.setTop (mkF m 16 #[.val (.int p0), .val (.int p1), .val wF] [])) t
    refine XS.iloadN X0.here hx rfl (hb hby d5_16) rfl ?_
    exact k
  obtain ⟨fs, hr, hrun, hended, hW, hsame⟩ := X0.leave (v := some (.int p0)) (fun h => by rw [Bd.returns] at h; cases h)
  refine ⟨_, _, k1 _ ?_, hrun, hended, _, _, rfl, ?_, ⟨_, rfl⟩, hW, hsame.mono (by decide) (by decide)⟩
  · exact retI X0 hx Bd.returns (hb hby d5_17) hr
  · show Q5 Z p0 p1 wF h0 n0 _ s₁.heap _
    rw [e0]
    exact ⟨congrArg (fun z => some (Value.int z)) (show f5 p0 p1 = p0 from (by unfold f5; rfl)).symm, N0, rfl⟩
theorem pn_1 : plainName "java/lang/String" = true := by first | (simp [plainName, overriddenIn]; done) | decide +kernel
theorem pd_0 : parseMethodDescriptor "(IILjava/util/function/BiFunction;)I" = some ⟨[.int, .int, (.object "java/util/function/BiFunction")], some .int⟩ := by decide +kernel
theorem d4_0 : decode jdk_42_method_155_code 0 = .ok (.iload_n 0, 1) := by decide +kernel
theorem d4_1 : decode jdk_42_method_155_code 1 = .ok (.iload_n 1, 1) := by decide +kernel
theorem d4_2 : decode jdk_42_method_155_code 2 = .ok (.getstatic 1053, 3) := by decide +kernel
theorem d4_5 : decode jdk_42_method_155_code 5 = .ok (.invokestatic 1059, 3) := by decide +kernel
theorem d4_8 : decode jdk_42_method_155_code 8 = .ok (.pop, 1) := by decide +kernel
theorem d4_9 : decode jdk_42_method_155_code 9 = .ok (.return_, 1) := by decide +kernel
theorem ef_4 (m : MethodId) (p0 : Int32) (p1 : Int32) : entryFrame m #[(.int p0), (.int p1)] 2 = mkF m 0 #[.val (.int p0), .val (.int p1)] [] := by first | (simp [entryFrame, mkF, argsToLocals, Value.category]; done) | rfl
def Q4 (Z : State) (p0 : Int32) (p1 : Int32) (wF : Value) (h0 : Heap) (n0 : Nat) (v : Option Value) (h : Heap) (L : List Loc) : Prop := v = none ∧ Fr n0 L ∧ h = h0
set_option maxRecDepth 65536 in
set_option maxHeartbeats 40000000 in
theorem rm4 (l : Launch) (Z : State) (a0 : Array Value) (hw : ∀ d ∈ tables_1, d.before a0 Z = true) (ws : List Jvm.Cond) (p0 : Int32) (p1 : Int32) (wF : Value) (h0 : Heap) (n0 : Nat) (Z0 : n0 ≤ h0.size) (S_F : Sta Z h0 "jdk/internal/util/Preconditions" "SIOOBE_FORMATTER" "Ljava/util/function/BiFunction;" wF) (hF : wF.isRef = true) (hlo : ¬ p0 < (0 : Int32)) (hhi : p0 < p1) :
    MetFree l (⟨"java/lang/String", "checkIndex", "(II)V"⟩ : MethodName) (head1 (Jvm.Cond.code (⟨"java/lang/String", "checkIndex", "(II)V"⟩ : MethodName) jdk_42_method_155_code 2 none :: ws) ({ frames := 1, cells := 0, slots := 0, locals := 14 } : Room)) (fun a U => a = #[(.int p0), (.int p1)] ∧ Z.Warmed39 U.vm ∧ U.heap = h0) (fun _ _ _ _ _ => True) (fun _ U o U' => ∃ v L, o = .returned v ∧ Q4 Z p0 p1 wF h0 n0 v U'.heap L ∧ FrameEnd U o U' L ({ frames := 1, cells := 0, slots := 0, locals := 14 } : Room).cells ({ frames := 1, cells := 0, slots := 0, locals := 14 } : Room).slots) := by
  refine MetFree.of_bodySF (plainFor_of_name pn_1) hisR ?_
  intro p e s m args below meth c s₁ Bd hml0 hP hK
  obtain ⟨rfl, hZ, hh⟩ := hP
  have hx := Bd.exec
  have hby := Bd.bytes
  have hml : c.maxLocals = 2 := hml0
  have hown : s.vm.findClass "java/lang/String" = some m.cls := findClass_of_methodNamed Bd.named
  have hnm := (name_of_methodNamed Bd.named Bd.method).1
  have X0 : Stand p l e ({ frames := 1, cells := 0, slots := 0, locals := 14 } : Room) s m #[(.int p0), (.int p1)] below meth c s₁ [] 0 0 := Stand.of_body Bd
  have e0 : s₁.heap = h0 := by rw [← hh, Bd.state]; rfl
  have N0 := Fr.nil n0
  have pre0 : own_Go p e below (s₁.setTop (entryFrame m #[(.int p0), (.int p1)] 2)) (s₁.setTop (mkF m 0 #[.val (.int p0), .val (.int p1)] [])) := fun t k => castTop (ef_4 m p0 p1) k
  have k1 : own_Go p e below (s₁.setTop (entryFrame m #[(.int p0), (.int p1)] 2)) (s₁.setTop (mkF m 2 #[.val (.int p0), .val (.int p1)] [(.int p1), (.int p0)])) := by
    intro t k
    refine pre0 t ?_
    show Steps p.tables e below (s₁.setTop (mkF m 0 #[.val (.int p0), .val (.int p1)] [])) t
    refine XS.iloadN X0.here hx rfl (hb hby d4_0) rfl ?_
    show Steps p.tables e below (s₁.setTop (mkF m 1 #[.val (.int p0), .val (.int p1)] [(.int p0)])) t
    refine XS.iloadN X0.here hx rfl (hb hby d4_1) rfl ?_
    exact k
  obtain ⟨T2, X2, e2, st2⟩ := getS2 X0 hx hZ hown (host := "") (Or.inl (hw _ (List.mem_of_getElem? (i := 29) rfl))) Via.refl e0 S_F (g := (mkF m 2 #[.val (.int p0), .val (.int p1)] [(.int p1), (.int p0)])) rfl (hb hby d4_2)
  have k3 : own_Go p e below (s₁.setTop (entryFrame m #[(.int p0), (.int p1)] 2)) (T2.setTop (mkF m 5 #[.val (.int p0), .val (.int p1)] [wF, (.int p1), (.int p0)])) := fun t k => k1 t (st2 t k)
  obtain ⟨_, _, ⟨T4, L4, kk4, n4⟩, -, X4, ⟨Lc4, hQ4, l4, y4, z4⟩, st4⟩ := Jvm.LawKit.callS X2 hx (y := (⟨"jdk/internal/util/Preconditions", "checkIndex", "(IILjava/util/function/BiFunction;)I"⟩ : MethodName)) hown (mvT hZ (hw _ (List.mem_of_getElem? (i := 31) rfl))) (mvT hZ (hw _ (List.mem_of_getElem? (i := 32) rfl))) (mvT hZ (hw _ (List.mem_of_getElem? (i := 30) rfl))) (mvT hZ (hw _ (List.mem_of_getElem? (i := 33) rfl))) (by decide) (backOf (W := 0) (rm5 l Z a0 hw [] p0 p1 wF  h0 n0 Z0 hF hlo hhi) hZ (hw _ (List.mem_of_getElem? (i := 33) rfl)) (hw _ (List.mem_of_getElem? (i := 30) rfl)) (by decide) (by decide)) (g := (mkF m 5 #[.val (.int p0), .val (.int p1)] [wF, (.int p1), (.int p0)])) rfl (by rw [hml]; rfl) (argsL := [(.int p0), (.int p1), wF]) (rest := []) (lenOf pd_0 rfl) rfl (by show 2 * 0 + _ ≤ _; exact Nat.le_of_eq rfl) (hb hby d4_5) (fun _ _ => ⟨rfl, e2, (by decide : 0 + 0 ≤ _), (by decide : 0 + 0 ≤ _)⟩)
  dsimp only [Pt.U, Pt.locs, Pt.cells, Pt.slots] at X4 l4 y4 z4 st4 hQ4
  subst l4 y4 z4
  obtain ⟨rfl, N4q, eh4⟩ := hQ4
  have N4 := Fr.app N0 N4q
  have k5 : own_Go p e below (s₁.setTop (entryFrame m #[(.int p0), (.int p1)] 2)) (T4.setTop (mkF m 8 #[.val (.int p0), .val (.int p1)] [(.int p0)])) := fun t k => k3 t (st4 t k)
  have k6 : own_Go p e below (s₁.setTop (entryFrame m #[(.int p0), (.int p1)] 2)) (T4.setTop (mkF m 9 #[.val (.int p0), .val (.int p1)] [])) := by
    intro t k
    refine k5 t ?_
    show Steps p.tables e below (T4.setTop (mkF m 8 #[.val (.int p0), .val (.int p1)] [(.int p0)])) t
    refine XS.pop X4.here hx rfl (hb hby d4_8) rfl rfl ?_
    exact k
  obtain ⟨fs, hr, hrun, hended, hW, hsame⟩ := X4.leave (v := none) (fun _ => rfl)
  refine ⟨_, _, k6 _ ?_, hrun, hended, _, _, rfl, ?_, ⟨_, rfl⟩, hW, hsame.mono (by decide) (by decide)⟩
  · exact X4.returnOut hx Bd.returns (hb hby d4_9) hr
  · show Q4 Z p0 p1 wF h0 n0 _ T4.heap _
    rw [eh4]
    exact ⟨rfl, N4, rfl⟩
theorem pn_2 : plainName "java/lang/StringLatin1" = true := by first | (simp [plainName, overriddenIn]; done) | decide +kernel
theorem pd_1 : parseMethodDescriptor "(II)V" = some ⟨[.int, .int], none⟩ := by decide +kernel
theorem d3_0 : decode jdk_43_method_2_code 0 = .ok (.iload_n 1, 1) := by decide +kernel
theorem d3_1 : decode jdk_43_method_2_code 1 = .ok (.aload_n 0, 1) := by decide +kernel
theorem d3_2 : decode jdk_43_method_2_code 2 = .ok (.arraylength, 1) := by decide +kernel
theorem d3_3 : decode jdk_43_method_2_code 3 = .ok (.invokestatic 9, 3) := by decide +kernel
theorem d3_6 : decode jdk_43_method_2_code 6 = .ok (.aload_n 0, 1) := by decide +kernel
theorem d3_7 : decode jdk_43_method_2_code 7 = .ok (.iload_n 1, 1) := by decide +kernel
theorem d3_8 : decode jdk_43_method_2_code 8 = .ok (.baload, 1) := by decide +kernel
theorem d3_9 : decode jdk_43_method_2_code 9 = .ok (.sipush 255, 3) := by decide +kernel
theorem d3_12 : decode jdk_43_method_2_code 12 = .ok (.iand, 1) := by decide +kernel
theorem d3_13 : decode jdk_43_method_2_code 13 = .ok (.i2c, 1) := by decide +kernel
theorem d3_14 : decode jdk_43_method_2_code 14 = .ok (.ireturn, 1) := by decide +kernel
theorem ef_3 (m : MethodId) (r0 : Addr) (p1 : Int32) : entryFrame m #[(.ref r0), (.int p1)] 2 = mkF m 0 #[.val (.ref r0), .val (.int p1)] [] := by first | (simp [entryFrame, mkF, argsToLocals, Value.category]; done) | rfl
def f3 (p1 : Int32) (B0 : Nat → Int32) : Int32 := ((((B0 (p1).toNatClampNeg) &&& (255 : Int32)).toUInt32.toUInt16.toUInt32.toInt32).toUInt32.toUInt16.toUInt32.toInt32)
def Q3 (Z : State) (r0 : Addr) (p1 : Int32) (B0 : Nat → Int32) (wF : Value) (h0 : Heap) (n0 : Nat) (v : Option Value) (h : Heap) (L : List Loc) : Prop := v = some (.int (f3 p1 B0)) ∧ Fr n0 L ∧ h = h0
set_option maxRecDepth 65536 in
set_option maxHeartbeats 40000000 in
theorem rm3 (l : Launch) (Z : State) (a0 : Array Value) (hw : ∀ d ∈ tables_1, d.before a0 Z = true) (ws : List Jvm.Cond) (r0 : Addr) (p1 : Int32) (B0 : Nat → Int32) (wF : Value) (h0 : Heap) (n0 : Nat) (Z0 : n0 ≤ h0.size) (V_r0 : own_By Z h0 r0 16 B0) (S_F : Sta Z h0 "jdk/internal/util/Preconditions" "SIOOBE_FORMATTER" "Ljava/util/function/BiFunction;" wF) (hF : wF.isRef = true) (hlo : ¬ p1 < (0 : Int32)) (hhi : p1 < (16 : Int32)) :
    MetFree l (⟨"java/lang/StringLatin1", "charAt", "([BI)C"⟩ : MethodName) (head1 (Jvm.Cond.code (⟨"java/lang/StringLatin1", "charAt", "([BI)C"⟩ : MethodName) jdk_43_method_2_code 2 (some .char) :: ws) ({ frames := 2, cells := 0, slots := 0, locals := 27 } : Room)) (fun a U => a = #[(.ref r0), (.int p1)] ∧ Z.Warmed39 U.vm ∧ U.heap = h0) (fun _ _ _ _ _ => True) (fun _ U o U' => ∃ v L, o = .returned v ∧ Q3 Z r0 p1 B0 wF h0 n0 v U'.heap L ∧ FrameEnd U o U' L ({ frames := 2, cells := 0, slots := 0, locals := 27 } : Room).cells ({ frames := 2, cells := 0, slots := 0, locals := 27 } : Room).slots) := by
  refine MetFree.of_bodySF (plainFor_of_name pn_2) hisR ?_
  intro p e s m args below meth c s₁ Bd hml0 hP hK
  obtain ⟨rfl, hZ, hh⟩ := hP
  have hx := Bd.exec
  have hby := Bd.bytes
  have hml : c.maxLocals = 2 := hml0
  have hown : s.vm.findClass "java/lang/StringLatin1" = some m.cls := findClass_of_methodNamed Bd.named
  have hnm := (name_of_methodNamed Bd.named Bd.method).1
  have X0 : Stand p l e ({ frames := 2, cells := 0, slots := 0, locals := 27 } : Room) s m #[(.ref r0), (.int p1)] below meth c s₁ [] 0 0 := Stand.of_body Bd
  have e0 : s₁.heap = h0 := by rw [← hh, Bd.state]; rfl
  have N0 := Fr.nil n0
  have pre0 : own_Go p e below (s₁.setTop (entryFrame m #[(.ref r0), (.int p1)] 2)) (s₁.setTop (mkF m 0 #[.val (.ref r0), .val (.int p1)] [])) := fun t k => castTop (ef_3 m r0 p1) k
  have k1 : own_Go p e below (s₁.setTop (entryFrame m #[(.ref r0), (.int p1)] 2)) (s₁.setTop (mkF m 3 #[.val (.ref r0), .val (.int p1)] [(.int (16 : Int32)), (.int p1)])) := by
    intro t k
    refine pre0 t ?_
    show Steps p.tables e below (s₁.setTop (mkF m 0 #[.val (.ref r0), .val (.int p1)] [])) t
    refine XS.iloadN X0.here hx rfl (hb hby d3_0) rfl ?_
    show Steps p.tables e below (s₁.setTop (mkF m 1 #[.val (.ref r0), .val (.int p1)] [(.int p1)])) t
    refine XS.aloadN X0.here hx rfl (hb hby d3_1) rfl rfl ?_
    show Steps p.tables e below (s₁.setTop (mkF m 2 #[.val (.ref r0), .val (.int p1)] [(.ref r0), (.int p1)])) t
    refine own_bln X0 hx hZ e0 V_r0 (z := (16 : Int32)) rfl (g := (mkF m 2 #[.val (.ref r0), .val (.int p1)] [(.ref r0), (.int p1)])) rfl rfl (hb hby d3_2) _ ?_
    exact k
  obtain ⟨_, _, ⟨T2, L2, kk2, n2⟩, -, X2, ⟨Lc2, hQ2, l2, y2, z2⟩, st2⟩ := Jvm.LawKit.callS X0 hx (y := (⟨"java/lang/String", "checkIndex", "(II)V"⟩ : MethodName)) hown (mvT hZ (hw _ (List.mem_of_getElem? (i := 26) rfl))) (mvT hZ (hw _ (List.mem_of_getElem? (i := 27) rfl))) (mvT hZ (hw _ (List.mem_of_getElem? (i := 1) rfl))) (mvT hZ (hw _ (List.mem_of_getElem? (i := 28) rfl))) (by decide) (backOf (W := 0) (rm4 l Z a0 hw [] p1 (16 : Int32) wF h0 n0 Z0 S_F hF hlo hhi) hZ (hw _ (List.mem_of_getElem? (i := 28) rfl)) (hw _ (List.mem_of_getElem? (i := 1) rfl)) (by decide) (by decide)) (g := (mkF m 3 #[.val (.ref r0), .val (.int p1)] [(.int (16 : Int32)), (.int p1)])) rfl (by rw [hml]; rfl) (argsL := [(.int p1), (.int (16 : Int32))]) (rest := []) (lenOf pd_1 rfl) rfl (by show 2 * 0 + _ ≤ _; exact Nat.le_of_eq rfl) (hb hby d3_3) (fun _ _ => ⟨rfl, e0, (by decide : 0 + 0 ≤ _), (by decide : 0 + 0 ≤ _)⟩)
  dsimp only [Pt.U, Pt.locs, Pt.cells, Pt.slots] at X2 l2 y2 z2 st2 hQ2
  subst l2 y2 z2
  obtain ⟨rfl, N2q, eh2⟩ := hQ2
  have N2 := Fr.app N0 N2q
  have k3 : own_Go p e below (s₁.setTop (entryFrame m #[(.ref r0), (.int p1)] 2)) (T2.setTop (mkF m 6 #[.val (.ref r0), .val (.int p1)] [])) := fun t k => k1 t (st2 t k)
  have k4 : own_Go p e below (s₁.setTop (entryFrame m #[(.ref r0), (.int p1)] 2)) (T2.setTop (mkF m 14 #[.val (.ref r0), .val (.int p1)] [(.int (((B0 (p1).toNatClampNeg) &&& (255 : Int32)).toUInt32.toUInt16.toUInt32.toInt32))])) := by
    intro t k
    refine k3 t ?_
    show Steps p.tables e below (T2.setTop (mkF m 6 #[.val (.ref r0), .val (.int p1)] [])) t
    refine XS.aloadN X2.here hx rfl (hb hby d3_6) rfl rfl ?_
    show Steps p.tables e below (T2.setTop (mkF m 7 #[.val (.ref r0), .val (.int p1)] [(.ref r0)])) t
    refine XS.iloadN X2.here hx rfl (hb hby d3_7) rfl ?_
    show Steps p.tables e below (T2.setTop (mkF m 8 #[.val (.ref r0), .val (.int p1)] [(.int p1), (.ref r0)])) t
    refine own_bld X2 hx hZ eh2 V_r0 (j := p1) hlo (own_c16 hlo hhi) (g := (mkF m 8 #[.val (.ref r0), .val (.int p1)] [(.int p1), (.ref r0)])) rfl rfl (hb hby d3_8) _ ?_
    show Steps p.tables e below (T2.setTop (mkF m 9 #[.val (.ref r0), .val (.int p1)] [(.int (B0 (p1).toNatClampNeg))])) t
    refine XS.sipush X2.here hx rfl (hb hby d3_9) ?_
    show Steps p.tables e below (T2.setTop (mkF m 12 #[.val (.ref r0), .val (.int p1)] [(.int (255 : Int32)), (.int (B0 (p1).toNatClampNeg))])) t
    refine XS.iand X2.here hx rfl (hb hby d3_12) rfl ?_
    show Steps p.tables e below (T2.setTop (mkF m 13 #[.val (.ref r0), .val (.int p1)] [(.int ((B0 (p1).toNatClampNeg) &&& (255 : Int32)))])) t
    refine XS.i2c X2.here hx rfl (hb hby d3_13) rfl ?_
    exact k
  obtain ⟨fs, hr, hrun, hended, hW, hsame⟩ := X2.leave (v := some (.int ((((B0 (p1).toNatClampNeg) &&& (255 : Int32)).toUInt32.toUInt16.toUInt32.toInt32).toUInt32.toUInt16.toUInt32.toInt32))) (fun h => by rw [Bd.returns] at h; cases h)
  refine ⟨_, _, k4 _ ?_, hrun, hended, _, _, rfl, ?_, ⟨_, rfl⟩, hW, hsame.mono (by decide) (by decide)⟩
  · exact retN X2 hx (t := .char) Bd.returns (by simp) (hb hby d3_14) hr
  · show Q3 Z r0 p1 B0 wF h0 n0 _ T2.heap _
    rw [eh2]
    exact ⟨congrArg (fun z => some (Value.int z)) (show f3 p1 B0 = ((((B0 (p1).toNatClampNeg) &&& (255 : Int32)).toUInt32.toUInt16.toUInt32.toInt32).toUInt32.toUInt16.toUInt32.toInt32) from (by unfold f3; rfl)).symm, N2, rfl⟩
theorem d2_0 : decode jdk_42_method_154_code 0 = .ok (.getstatic 38, 3) := by decide +kernel
theorem d2_3 : decode jdk_42_method_154_code 3 = .ok (.ifCond .eq 14, 3) := by decide +kernel
theorem d2_6 : decode jdk_42_method_154_code 6 = .ok (.aload_n 0, 1) := by decide +kernel
theorem d2_7 : decode jdk_42_method_154_code 7 = .ok (.getfield 15, 3) := by decide +kernel
theorem d2_10 : decode jdk_42_method_154_code 10 = .ok (.ifCond .ne 7, 3) := by decide +kernel
theorem d2_13 : decode jdk_42_method_154_code 13 = .ok (.iconst 1, 1) := by decide +kernel
theorem d2_14 : decode jdk_42_method_154_code 14 = .ok (.goto 4, 3) := by decide +kernel
theorem d2_18 : decode jdk_42_method_154_code 18 = .ok (.ireturn, 1) := by decide +kernel
theorem ef_2 (m : MethodId) (r0 : Addr) : entryFrame m #[(.ref r0)] 1 = mkF m 0 #[.val (.ref r0)] [] := by first | (simp [entryFrame, mkF, argsToLocals, Value.category]; done) | rfl
def f2 (wC : Int32) : Int32 := (1 : Int32)
def Q2 (Z : State) (r0 : Addr) (wC : Int32) (h0 : Heap) (n0 : Nat) (v : Option Value) (h : Heap) (L : List Loc) : Prop := v = some (.int (f2 wC)) ∧ Fr n0 L ∧ h = h0
set_option maxRecDepth 65536 in
set_option maxHeartbeats 40000000 in
theorem rm2 (l : Launch) (Z : State) (a0 : Array Value) (hw : ∀ d ∈ tables_1, d.before a0 Z = true) (ws : List Jvm.Cond) (r0 : Addr) (wC : Int32) (h0 : Heap) (n0 : Nat) (Z0 : n0 ≤ h0.size) (S_C : Sta Z h0 "java/lang/String" "COMPACT_STRINGS" "Z" (.int wC)) (hC : ¬ wC = (0 : Int32)) (E_r0 : Exa Z h0 r0 "java/lang/String") (F_coder : Fld Z h0 r0 "java/lang/String" "coder" "B" (.int (0 : Int32))) :
    MetFree l (⟨"java/lang/String", "isLatin1", "()Z"⟩ : MethodName) (head1 (Jvm.Cond.code (⟨"java/lang/String", "isLatin1", "()Z"⟩ : MethodName) jdk_42_method_154_code 1 (some .boolean) :: ws) ({ frames := 0, cells := 0, slots := 0, locals := 0 } : Room)) (fun a U => a = #[(.ref r0)] ∧ Z.Warmed39 U.vm ∧ U.heap = h0) (fun _ _ _ _ _ => True) (fun _ U o U' => ∃ v L, o = .returned v ∧ Q2 Z r0 wC h0 n0 v U'.heap L ∧ FrameEnd U o U' L ({ frames := 0, cells := 0, slots := 0, locals := 0 } : Room).cells ({ frames := 0, cells := 0, slots := 0, locals := 0 } : Room).slots) := by
  refine MetFree.of_bodySF (plainFor_of_name pn_1) hisR ?_
  intro p e s m args below meth c s₁ Bd hml0 hP hK
  obtain ⟨rfl, hZ, hh⟩ := hP
  have hx := Bd.exec
  have hby := Bd.bytes
  have hml : c.maxLocals = 1 := hml0
  have hown : s.vm.findClass "java/lang/String" = some m.cls := findClass_of_methodNamed Bd.named
  have hnm := (name_of_methodNamed Bd.named Bd.method).1
  have X0 : Stand p l e ({ frames := 0, cells := 0, slots := 0, locals := 0 } : Room) s m #[(.ref r0)] below meth c s₁ [] 0 0 := Stand.of_body Bd
  have e0 : s₁.heap = h0 := by rw [← hh, Bd.state]; rfl
  have N0 := Fr.nil n0
  have pre0 : own_Go p e below (s₁.setTop (entryFrame m #[(.ref r0)] 1)) (s₁.setTop (mkF m 0 #[.val (.ref r0)] [])) := fun t k => castTop (ef_2 m r0) k
  obtain ⟨T1, X1, e1, st1⟩ := getS2 X0 hx hZ hown (host := "") (Or.inl (hw _ (List.mem_of_getElem? (i := 19) rfl))) Via.refl e0 S_C (g := (mkF m 0 #[.val (.ref r0)] [])) rfl (hb hby d2_0)
  have k2 : own_Go p e below (s₁.setTop (entryFrame m #[(.ref r0)] 1)) (T1.setTop (mkF m 3 #[.val (.ref r0)] [(.int wC)])) := fun t k => pre0 t (st1 t k)
  have k3 : own_Go p e below (s₁.setTop (entryFrame m #[(.ref r0)] 1)) (T1.setTop (mkF m 7 #[.val (.ref r0)] [(.ref r0)])) := by
    intro t k
    refine k2 t ?_
    show Steps p.tables e below (T1.setTop (mkF m 3 #[.val (.ref r0)] [(.int wC)])) t
    refine XS.ifNo X1.here hx rfl (hb hby d2_3) rfl ((if0 _ _).trans (feq hC).1) ?_
    show Steps p.tables e below (T1.setTop (mkF m 6 #[.val (.ref r0)] [])) t
    refine XS.aloadN X1.here hx rfl (hb hby d2_6) rfl rfl ?_
    exact k
  obtain ⟨T4, X4, e4, st4⟩ := getF X1 hx hZ hown (host := "") (Or.inl (hw _ (List.mem_of_getElem? (i := 20) rfl))) Via.refl e1 F_coder (g := (mkF m 7 #[.val (.ref r0)] [(.ref r0)])) rfl rfl (hb hby d2_7)
  have k5 : own_Go p e below (s₁.setTop (entryFrame m #[(.ref r0)] 1)) (T4.setTop (mkF m 10 #[.val (.ref r0)] [(.int (0 : Int32))])) := fun t k => k3 t (st4 t k)
  have k6 : own_Go p e below (s₁.setTop (entryFrame m #[(.ref r0)] 1)) (T4.setTop (mkF m 18 #[.val (.ref r0)] [(.int (1 : Int32))])) := by
    intro t k
    refine k5 t ?_
    show Steps p.tables e below (T4.setTop (mkF m 10 #[.val (.ref r0)] [(.int (0 : Int32))])) t
    refine XS.ifNo X4.here hx rfl (hb hby d2_10) rfl ((if0 _ _).trans (teq (by decide : (0 : Int32) = (0 : Int32))).2) ?_
    show Steps p.tables e below (T4.setTop (mkF m 13 #[.val (.ref r0)] [])) t
    refine XS.iconst X4.here hx rfl (hb hby d2_13) ?_
    show Steps p.tables e below (T4.setTop (mkF m 14 #[.val (.ref r0)] [(.int (1 : Int32))])) t
    refine XS.goto X4.here hx rfl (pc0 := 14) (pc' := 18) rfl (hb hby d2_14) (by decide) (by decide) ?_
    exact k
  obtain ⟨fs, hr, hrun, hended, hW, hsame⟩ := X4.leave (v := some (.int (1 : Int32))) (fun h => by rw [Bd.returns] at h; cases h)
  refine ⟨_, _, k6 _ ?_, hrun, hended, _, _, rfl, ?_, ⟨_, rfl⟩, hW, hsame.mono (by decide) (by decide)⟩
  · exact retN X4 hx (t := .boolean) Bd.returns (by simp) (hb hby d2_18) hr
  · show Q2 Z r0 wC h0 n0 _ T4.heap _
    rw [e4]
    exact ⟨congrArg (fun z => some (Value.int z)) (show f2 wC = (1 : Int32) from (by unfold f2; rfl)).symm, N0, rfl⟩
theorem pd_2 : parseMethodDescriptor "()Z" = some ⟨[], some .boolean⟩ := by decide +kernel
theorem pd_3 : parseMethodDescriptor "([BI)C" = some ⟨[(.array .byte), .int], some .char⟩ := by decide +kernel
theorem d1_0 : decode jdk_42_method_56_code 0 = .ok (.aload_n 0, 1) := by decide +kernel
theorem d1_1 : decode jdk_42_method_56_code 1 = .ok (.invokevirtual 492, 3) := by decide +kernel
theorem d1_4 : decode jdk_42_method_56_code 4 = .ok (.ifCond .eq 12, 3) := by decide +kernel
theorem d1_7 : decode jdk_42_method_56_code 7 = .ok (.aload_n 0, 1) := by decide +kernel
theorem d1_8 : decode jdk_42_method_56_code 8 = .ok (.getfield 9, 3) := by decide +kernel
theorem d1_11 : decode jdk_42_method_56_code 11 = .ok (.iload_n 1, 1) := by decide +kernel
theorem d1_12 : decode jdk_42_method_56_code 12 = .ok (.invokestatic 495, 3) := by decide +kernel
theorem d1_15 : decode jdk_42_method_56_code 15 = .ok (.ireturn, 1) := by decide +kernel
theorem ef_1 (m : MethodId) (r0 : Addr) (p1 : Int32) : entryFrame m #[(.ref r0), (.int p1)] 2 = mkF m 0 #[.val (.ref r0), .val (.int p1)] [] := by first | (simp [entryFrame, mkF, argsToLocals, Value.category]; done) | rfl
def f1 (p1 : Int32) (B0 : Nat → Int32) : Int32 := ((f3 p1 B0).toUInt32.toUInt16.toUInt32.toInt32)
def Q1 (Z : State) (r0 : Addr) (p1 : Int32) (B0 : Nat → Int32) (rv : Addr) (wC : Int32) (wF : Value) (h0 : Heap) (n0 : Nat) (v : Option Value) (h : Heap) (L : List Loc) : Prop := v = some (.int (f1 p1 B0)) ∧ Fr n0 L ∧ h = h0
set_option maxRecDepth 65536 in
set_option maxHeartbeats 40000000 in
theorem rm1 (l : Launch) (Z : State) (a0 : Array Value) (hw : ∀ d ∈ tables_1, d.before a0 Z = true) (ws : List Jvm.Cond) (r0 : Addr) (p1 : Int32) (B0 : Nat → Int32) (rv : Addr) (wC : Int32) (wF : Value) (h0 : Heap) (n0 : Nat) (Z0 : n0 ≤ h0.size) (E_r0 : Exa Z h0 r0 "java/lang/String") (F_coder : Fld Z h0 r0 "java/lang/String" "coder" "B" (.int (0 : Int32))) (F_value : Fld Z h0 r0 "java/lang/String" "value" "[B" (.ref rv)) (V_rv : own_By Z h0 rv 16 B0) (S_C : Sta Z h0 "java/lang/String" "COMPACT_STRINGS" "Z" (.int wC)) (hC : ¬ wC = (0 : Int32)) (S_F : Sta Z h0 "jdk/internal/util/Preconditions" "SIOOBE_FORMATTER" "Ljava/util/function/BiFunction;" wF) (hF : wF.isRef = true) (hlo : ¬ p1 < (0 : Int32)) (hhi : p1 < (16 : Int32)) :
    MetFree l (⟨"java/lang/String", "charAt", "(I)C"⟩ : MethodName) (head1 (Jvm.Cond.code (⟨"java/lang/String", "charAt", "(I)C"⟩ : MethodName) jdk_42_method_56_code 2 (some .char) :: ws) ({ frames := 3, cells := 0, slots := 0, locals := 40 } : Room)) (fun a U => a = #[(.ref r0), (.int p1)] ∧ Z.Warmed39 U.vm ∧ U.heap = h0) (fun _ _ _ _ _ => True) (fun _ U o U' => ∃ v L, o = .returned v ∧ Q1 Z r0 p1 B0 rv wC wF h0 n0 v U'.heap L ∧ FrameEnd U o U' L ({ frames := 3, cells := 0, slots := 0, locals := 40 } : Room).cells ({ frames := 3, cells := 0, slots := 0, locals := 40 } : Room).slots) := by
  refine MetFree.of_bodySF (plainFor_of_name pn_1) hisR ?_
  intro p e s m args below meth c s₁ Bd hml0 hP hK
  obtain ⟨rfl, hZ, hh⟩ := hP
  have hx := Bd.exec
  have hby := Bd.bytes
  have hml : c.maxLocals = 2 := hml0
  have hown : s.vm.findClass "java/lang/String" = some m.cls := findClass_of_methodNamed Bd.named
  have hnm := (name_of_methodNamed Bd.named Bd.method).1
  have X0 : Stand p l e ({ frames := 3, cells := 0, slots := 0, locals := 40 } : Room) s m #[(.ref r0), (.int p1)] below meth c s₁ [] 0 0 := Stand.of_body Bd
  have e0 : s₁.heap = h0 := by rw [← hh, Bd.state]; rfl
  have N0 := Fr.nil n0
  have pre0 : own_Go p e below (s₁.setTop (entryFrame m #[(.ref r0), (.int p1)] 2)) (s₁.setTop (mkF m 0 #[.val (.ref r0), .val (.int p1)] [])) := fun t k => castTop (ef_1 m r0 p1) k
  have k1 : own_Go p e below (s₁.setTop (entryFrame m #[(.ref r0), (.int p1)] 2)) (s₁.setTop (mkF m 1 #[.val (.ref r0), .val (.int p1)] [(.ref r0)])) := by
    intro t k
    refine pre0 t ?_
    show Steps p.tables e below (s₁.setTop (mkF m 0 #[.val (.ref r0), .val (.int p1)] [])) t
    refine XS.aloadN X0.here hx rfl (hb hby d1_0) rfl rfl ?_
    exact k
  obtain ⟨cq2, kq2, q2a, q2b, q2c⟩ := isOf hZ e0 E_r0
  obtain ⟨_, _, ⟨T2, L2, kk2, n2⟩, -, X2, ⟨Lc2, hQ2, l2, y2, z2⟩, st2⟩ := X0.virtualBack hx (y := (⟨"java/lang/String", "isLatin1", "()Z"⟩ : MethodName)) (z := (⟨"java/lang/String", "isLatin1", "()Z"⟩ : MethodName)) hown (mvT hZ (hw _ (List.mem_of_getElem? (i := 14) rfl))) (mvT hZ (hw _ (List.mem_of_getElem? (i := 15) rfl))) (notFace_of_selects (args := #[]) (mvT hZ (hw _ (List.mem_of_getElem? (i := 17) rfl)))) (mvT hZ (hw _ (List.mem_of_getElem? (i := 17) rfl))) (mvT hZ (hw _ (List.mem_of_getElem? (i := 16) rfl))) (by decide) (backOf (W := 0) (rm2 l Z a0 hw [] r0 wC h0 n0 Z0 S_C hC E_r0 F_coder) hZ (hw _ (List.mem_of_getElem? (i := 18) rfl)) (hw _ (List.mem_of_getElem? (i := 1) rfl)) (by decide) (by decide)) q2a q2c (g := (mkF m 1 #[.val (.ref r0), .val (.int p1)] [(.ref r0)])) rfl (by rw [hml]; rfl) (Steps.refl _) (argsL := []) (rest := []) (lenOf pd_2 rfl) rfl (by show 2 * 0 + _ ≤ _; exact Nat.le_of_eq rfl) (hb hby d1_1) (fun _ _ => ⟨rfl, e0, (by decide : 0 + 0 ≤ _), (by decide : 0 + 0 ≤ _)⟩)
  dsimp only [Pt.U, Pt.locs, Pt.cells, Pt.slots] at X2 l2 y2 z2 st2 hQ2
  subst l2 y2 z2
  obtain ⟨rfl, N2q, eh2⟩ := hQ2
  have N2 := Fr.app N0 N2q
  have k3 : own_Go p e below (s₁.setTop (entryFrame m #[(.ref r0), (.int p1)] 2)) (T2.setTop (mkF m 4 #[.val (.ref r0), .val (.int p1)] [(.int (1 : Int32))])) := fun t k => k1 t (st2.trans k)
  have k4 : own_Go p e below (s₁.setTop (entryFrame m #[(.ref r0), (.int p1)] 2)) (T2.setTop (mkF m 8 #[.val (.ref r0), .val (.int p1)] [(.ref r0)])) := by
    intro t k
    refine k3 t ?_
    show Steps p.tables e below (T2.setTop (mkF m 4 #[.val (.ref r0), .val (.int p1)] [(.int (1 : Int32))])) t
    refine XS.ifNo X2.here hx rfl (hb hby d1_4) rfl ((if0 _ _).trans (feq (by decide : ¬ ((1 : Int32) = (0 : Int32)))).1) ?_
    show Steps p.tables e below (T2.setTop (mkF m 7 #[.val (.ref r0), .val (.int p1)] [])) t
    refine XS.aloadN X2.here hx rfl (hb hby d1_7) rfl rfl ?_
    exact k
  obtain ⟨T5, X5, e5, st5⟩ := getF X2 hx hZ hown (host := "") (Or.inl (hw _ (List.mem_of_getElem? (i := 21) rfl))) Via.refl eh2 F_value (g := (mkF m 8 #[.val (.ref r0), .val (.int p1)] [(.ref r0)])) rfl rfl (hb hby d1_8)
  have k6 : own_Go p e below (s₁.setTop (entryFrame m #[(.ref r0), (.int p1)] 2)) (T5.setTop (mkF m 11 #[.val (.ref r0), .val (.int p1)] [(.ref rv)])) := fun t k => k4 t (st5 t k)
  have k7 : own_Go p e below (s₁.setTop (entryFrame m #[(.ref r0), (.int p1)] 2)) (T5.setTop (mkF m 12 #[.val (.ref r0), .val (.int p1)] [(.int p1), (.ref rv)])) := by
    intro t k
    refine k6 t ?_
    show Steps p.tables e below (T5.setTop (mkF m 11 #[.val (.ref r0), .val (.int p1)] [(.ref rv)])) t
    refine XS.iloadN X5.here hx rfl (hb hby d1_11) rfl ?_
    exact k
  obtain ⟨_, _, ⟨T8, L8, kk8, n8⟩, -, X8, ⟨Lc8, hQ8, l8, y8, z8⟩, st8⟩ := Jvm.LawKit.callS X5 hx (y := (⟨"java/lang/StringLatin1", "charAt", "([BI)C"⟩ : MethodName)) hown (mvT hZ (hw _ (List.mem_of_getElem? (i := 22) rfl))) (mvT hZ (hw _ (List.mem_of_getElem? (i := 23) rfl))) (mvT hZ (hw _ (List.mem_of_getElem? (i := 24) rfl))) (mvT hZ (hw _ (List.mem_of_getElem? (i := 25) rfl))) (by decide) (backOf (W := 0) (rm3 l Z a0 hw [] rv p1 B0 wF h0 n0 Z0 V_rv S_F hF hlo hhi) hZ (hw _ (List.mem_of_getElem? (i := 25) rfl)) (hw _ (List.mem_of_getElem? (i := 24) rfl)) (by decide) (by decide)) (g := (mkF m 12 #[.val (.ref r0), .val (.int p1)] [(.int p1), (.ref rv)])) rfl (by rw [hml]; rfl) (argsL := [(.ref rv), (.int p1)]) (rest := []) (lenOf pd_3 rfl) rfl (by show 2 * 0 + _ ≤ _; exact Nat.le_of_eq rfl) (hb hby d1_12) (fun _ _ => ⟨rfl, e5, (by decide : 0 + 0 ≤ _), (by decide : 0 + 0 ≤ _)⟩)
  dsimp only [Pt.U, Pt.locs, Pt.cells, Pt.slots] at X8 l8 y8 z8 st8 hQ8
  subst l8 y8 z8
  obtain ⟨rfl, N8q, eh8⟩ := hQ8
  have N8 := Fr.app N2 N8q
  have k9 : own_Go p e below (s₁.setTop (entryFrame m #[(.ref r0), (.int p1)] 2)) (T8.setTop (mkF m 15 #[.val (.ref r0), .val (.int p1)] [(.int (f3 p1 B0))])) := fun t k => k7 t (st8 t k)
  obtain ⟨fs, hr, hrun, hended, hW, hsame⟩ := X8.leave (v := some (.int ((f3 p1 B0).toUInt32.toUInt16.toUInt32.toInt32))) (fun h => by rw [Bd.returns] at h; cases h)
  refine ⟨_, _, k9 _ ?_, hrun, hended, _, _, rfl, ?_, ⟨_, rfl⟩, hW, hsame.mono (by decide) (by decide)⟩
  · exact retN X8 hx (t := .char) Bd.returns (by simp) (hb hby d1_15) hr
  · show Q1 Z r0 p1 B0 rv wC wF h0 n0 _ T8.heap _
    rw [eh8]
    exact ⟨congrArg (fun z => some (Value.int z)) (show f1 p1 B0 = ((f3 p1 B0).toUInt32.toUInt16.toUInt32.toInt32) from (by unfold f1; rfl)).symm, N8, rfl⟩
theorem pn_3 : plainName "com/example/keepout/keepout/match/PercentEncoding" = true := by first | (simp [plainName, overriddenIn]; done) | decide +kernel
theorem d6_0 : decode prog_27_method_9_code 0 = .ok (.iload_n 0, 1) := by decide +kernel
theorem d6_1 : decode prog_27_method_9_code 1 = .ok (.bipush 48, 2) := by decide +kernel
theorem d6_3 : decode prog_27_method_9_code 3 = .ok (.if_icmp .lt 17, 3) := by decide +kernel
theorem d6_6 : decode prog_27_method_9_code 6 = .ok (.iload_n 0, 1) := by decide +kernel
theorem d6_7 : decode prog_27_method_9_code 7 = .ok (.bipush 57, 2) := by decide +kernel
theorem d6_9 : decode prog_27_method_9_code 9 = .ok (.if_icmp .gt 11, 3) := by decide +kernel
theorem d6_12 : decode prog_27_method_9_code 12 = .ok (.iload_n 0, 1) := by decide +kernel
theorem d6_13 : decode prog_27_method_9_code 13 = .ok (.bipush 48, 2) := by decide +kernel
theorem d6_15 : decode prog_27_method_9_code 15 = .ok (.isub, 1) := by decide +kernel
theorem d6_16 : decode prog_27_method_9_code 16 = .ok (.istore_n 1, 1) := by decide +kernel
theorem d6_17 : decode prog_27_method_9_code 17 = .ok (.goto 51, 3) := by decide +kernel
theorem d6_20 : decode prog_27_method_9_code 20 = .ok (.iload_n 0, 1) := by decide +kernel
theorem d6_21 : decode prog_27_method_9_code 21 = .ok (.bipush 65, 2) := by decide +kernel
theorem d6_23 : decode prog_27_method_9_code 23 = .ok (.if_icmp .lt 20, 3) := by decide +kernel
theorem d6_26 : decode prog_27_method_9_code 26 = .ok (.iload_n 0, 1) := by decide +kernel
theorem d6_27 : decode prog_27_method_9_code 27 = .ok (.bipush 70, 2) := by decide +kernel
theorem d6_29 : decode prog_27_method_9_code 29 = .ok (.if_icmp .gt 14, 3) := by decide +kernel
theorem d6_32 : decode prog_27_method_9_code 32 = .ok (.iload_n 0, 1) := by decide +kernel
theorem d6_33 : decode prog_27_method_9_code 33 = .ok (.bipush 65, 2) := by decide +kernel
theorem d6_35 : decode prog_27_method_9_code 35 = .ok (.isub, 1) := by decide +kernel
theorem d6_36 : decode prog_27_method_9_code 36 = .ok (.bipush 10, 2) := by decide +kernel
theorem d6_38 : decode prog_27_method_9_code 38 = .ok (.iadd, 1) := by decide +kernel
theorem d6_39 : decode prog_27_method_9_code 39 = .ok (.istore_n 1, 1) := by decide +kernel
theorem d6_40 : decode prog_27_method_9_code 40 = .ok (.goto 28, 3) := by decide +kernel
theorem d6_43 : decode prog_27_method_9_code 43 = .ok (.iload_n 0, 1) := by decide +kernel
theorem d6_44 : decode prog_27_method_9_code 44 = .ok (.bipush 97, 2) := by decide +kernel
theorem d6_46 : decode prog_27_method_9_code 46 = .ok (.if_icmp .lt 20, 3) := by decide +kernel
theorem d6_49 : decode prog_27_method_9_code 49 = .ok (.iload_n 0, 1) := by decide +kernel
theorem d6_50 : decode prog_27_method_9_code 50 = .ok (.bipush 102, 2) := by decide +kernel
theorem d6_52 : decode prog_27_method_9_code 52 = .ok (.if_icmp .gt 14, 3) := by decide +kernel
theorem d6_55 : decode prog_27_method_9_code 55 = .ok (.iload_n 0, 1) := by decide +kernel
theorem d6_56 : decode prog_27_method_9_code 56 = .ok (.bipush 97, 2) := by decide +kernel
theorem d6_58 : decode prog_27_method_9_code 58 = .ok (.isub, 1) := by decide +kernel
theorem d6_59 : decode prog_27_method_9_code 59 = .ok (.bipush 10, 2) := by decide +kernel
theorem d6_61 : decode prog_27_method_9_code 61 = .ok (.iadd, 1) := by decide +kernel
theorem d6_62 : decode prog_27_method_9_code 62 = .ok (.istore_n 1, 1) := by decide +kernel
theorem d6_63 : decode prog_27_method_9_code 63 = .ok (.goto 5, 3) := by decide +kernel
theorem d6_66 : decode prog_27_method_9_code 66 = .ok (.iconst (-1), 1) := by decide +kernel
theorem d6_67 : decode prog_27_method_9_code 67 = .ok (.istore_n 1, 1) := by decide +kernel
theorem d6_68 : decode prog_27_method_9_code 68 = .ok (.iload_n 1, 1) := by decide +kernel
theorem d6_69 : decode prog_27_method_9_code 69 = .ok (.ireturn, 1) := by decide +kernel
theorem ef_6 (m : MethodId) (p0 : Int32) : entryFrame m #[(.int p0)] 2 = mkF m 0 #[.val (.int p0), .unset] [] := by first | (simp [entryFrame, mkF, argsToLocals, Value.category]; done) | rfl
def v6_62 (p0 : Int32) : Int32 := ((p0 - (97 : Int32)) + (10 : Int32))
def v6_39 (p0 : Int32) : Int32 := ((p0 - (65 : Int32)) + (10 : Int32))
def f6 (p0 : Int32) : Int32 := (if p0 < (48 : Int32) then (if p0 < (65 : Int32) then (if p0 < (97 : Int32) then (-1 : Int32) else (if (102 : Int32) < p0 then (-1 : Int32) else (v6_62 p0))) else (if (70 : Int32) < p0 then (if p0 < (97 : Int32) then (-1 : Int32) else (if (102 : Int32) < p0 then (-1 : Int32) else (v6_62 p0))) else (v6_39 p0))) else (if (57 : Int32) < p0 then (if p0 < (65 : Int32) then (if p0 < (97 : Int32) then (-1 : Int32) else (if (102 : Int32) < p0 then (-1 : Int32) else (v6_62 p0))) else (if (70 : Int32) < p0 then (if p0 < (97 : Int32) then (-1 : Int32) else (if (102 : Int32) < p0 then (-1 : Int32) else (v6_62 p0))) else (v6_39 p0))) else (p0 - (48 : Int32))))
def Q6 (Z : State) (p0 : Int32) (h0 : Heap) (n0 : Nat) (v : Option Value) (h : Heap) (L : List Loc) : Prop := v = some (.int (f6 p0)) ∧ Fr n0 L ∧ h = h0
set_option maxRecDepth 65536 in
set_option maxHeartbeats 40000000 in
theorem rm6 (l : Launch) (Z : State) (a0 : Array Value) (hw : ∀ d ∈ tables_1, d.before a0 Z = true) (ws : List Jvm.Cond) (p0 : Int32) (h0 : Heap) (n0 : Nat) (Z0 : n0 ≤ h0.size) :
    MetFree l (⟨"com/example/keepout/keepout/match/PercentEncoding", "hexValue", "(C)I"⟩ : MethodName) (head1 (Jvm.Cond.code (⟨"com/example/keepout/keepout/match/PercentEncoding", "hexValue", "(C)I"⟩ : MethodName) prog_27_method_9_code 2 (some .int) :: ws) ({ frames := 0, cells := 0, slots := 0, locals := 0 } : Room)) (fun a U => a = #[(.int p0)] ∧ Z.Warmed39 U.vm ∧ U.heap = h0) (fun _ _ _ _ _ => True) (fun _ U o U' => ∃ v L, o = .returned v ∧ Q6 Z p0 h0 n0 v U'.heap L ∧ FrameEnd U o U' L ({ frames := 0, cells := 0, slots := 0, locals := 0 } : Room).cells ({ frames := 0, cells := 0, slots := 0, locals := 0 } : Room).slots) := by
  refine MetFree.of_bodySF (plainFor_of_name pn_3) hisR ?_
  intro p e s m args below meth c s₁ Bd hml0 hP hK
  obtain ⟨rfl, hZ, hh⟩ := hP
  have hx := Bd.exec
  have hby := Bd.bytes
  have hml : c.maxLocals = 2 := hml0
  have hown : s.vm.findClass "com/example/keepout/keepout/match/PercentEncoding" = some m.cls := findClass_of_methodNamed Bd.named
  have hnm := (name_of_methodNamed Bd.named Bd.method).1
  have X0 : Stand p l e ({ frames := 0, cells := 0, slots := 0, locals := 0 } : Room) s m #[(.int p0)] below meth c s₁ [] 0 0 := Stand.of_body Bd
  have e0 : s₁.heap = h0 := by rw [← hh, Bd.state]; rfl
  have N0 := Fr.nil n0
  have pre0 : own_Go p e below (s₁.setTop (entryFrame m #[(.int p0)] 2)) (s₁.setTop (mkF m 0 #[.val (.int p0), .unset] [])) := fun t k => castTop (ef_6 m p0) k
  have k1 : own_Go p e below (s₁.setTop (entryFrame m #[(.int p0)] 2)) (s₁.setTop (mkF m 3 #[.val (.int p0), .unset] [(.int (48 : Int32)), (.int p0)])) := by
    intro t k
    refine pre0 t ?_
    show Steps p.tables e below (s₁.setTop (mkF m 0 #[.val (.int p0), .unset] [])) t
    refine XS.iloadN X0.here hx rfl (hb hby d6_0) rfl ?_
    show Steps p.tables e below (s₁.setTop (mkF m 1 #[.val (.int p0), .unset] [(.int p0)])) t
    refine XS.bipush X0.here hx rfl (hb hby d6_1) ?_
    exact k
  by_cases hc3_2 : p0 < (48 : Int32)
  · have k3 : own_Go p e below (s₁.setTop (entryFrame m #[(.int p0)] 2)) (s₁.setTop (mkF m 23 #[.val (.int p0), .unset] [(.int (65 : Int32)), (.int p0)])) := by
      intro t k
      refine k1 t ?_
      show Steps p.tables e below (s₁.setTop (mkF m 3 #[.val (.int p0), .unset] [(.int (48 : Int32)), (.int p0)])) t
      refine XS.icmpYes X0.here hx rfl (pc0 := 3) (pc' := 20) rfl (hb hby d6_3) rfl (tlt hc3_2).1 (by decide) (by decide) ?_
      show Steps p.tables e below (s₁.setTop (mkF m 20 #[.val (.int p0), .unset] [])) t
      refine XS.iloadN X0.here hx rfl (hb hby d6_20) rfl ?_
      show Steps p.tables e below (s₁.setTop (mkF m 21 #[.val (.int p0), .unset] [(.int p0)])) t
      refine XS.bipush X0.here hx rfl (hb hby d6_21) ?_
      exact k
    by_cases hc23_4 : p0 < (65 : Int32)
    · have k5 : own_Go p e below (s₁.setTop (entryFrame m #[(.int p0)] 2)) (s₁.setTop (mkF m 46 #[.val (.int p0), .unset] [(.int (97 : Int32)), (.int p0)])) := by
        intro t k
        refine k3 t ?_
        show Steps p.tables e below (s₁.setTop (mkF m 23 #[.val (.int p0), .unset] [(.int (65 : Int32)), (.int p0)])) t
        refine XS.icmpYes X0.here hx rfl (pc0 := 23) (pc' := 43) rfl (hb hby d6_23) rfl (tlt hc23_4).1 (by decide) (by decide) ?_
        show Steps p.tables e below (s₁.setTop (mkF m 43 #[.val (.int p0), .unset] [])) t
        refine XS.iloadN X0.here hx rfl (hb hby d6_43) rfl ?_
        show Steps p.tables e below (s₁.setTop (mkF m 44 #[.val (.int p0), .unset] [(.int p0)])) t
        refine XS.bipush X0.here hx rfl (hb hby d6_44) ?_
        exact k
      by_cases hc46_6 : p0 < (97 : Int32)
      · have k7 : own_Go p e below (s₁.setTop (entryFrame m #[(.int p0)] 2)) (s₁.setTop (mkF m 69 #[.val (.int p0), .val (.int (-1 : Int32))] [(.int (-1 : Int32))])) := by
          intro t k
          refine k5 t ?_
          show Steps p.tables e below (s₁.setTop (mkF m 46 #[.val (.int p0), .unset] [(.int (97 : Int32)), (.int p0)])) t
          refine XS.icmpYes X0.here hx rfl (pc0 := 46) (pc' := 66) rfl (hb hby d6_46) rfl (tlt hc46_6).1 (by decide) (by decide) ?_
          show Steps p.tables e below (s₁.setTop (mkF m 66 #[.val (.int p0), .unset] [])) t
          refine XS.iconst X0.here hx rfl (hb hby d6_66) ?_
          show Steps p.tables e below (s₁.setTop (mkF m 67 #[.val (.int p0), .unset] [(.int (-1 : Int32))])) t
          refine XS.istoreN X0.here hx rfl (hb hby d6_67) rfl (l' := #[.val (.int p0), .val (.int (-1 : Int32))]) rfl ?_
          show Steps p.tables e below (s₁.setTop (mkF m 68 #[.val (.int p0), .val (.int (-1 : Int32))] [])) t
          refine XS.iloadN X0.here hx rfl (hb hby d6_68) rfl ?_
          exact k
        obtain ⟨fs, hr, hrun, hended, hW, hsame⟩ := X0.leave (v := some (.int (-1 : Int32))) (fun h => by rw [Bd.returns] at h; cases h)
        refine ⟨_, _, k7 _ ?_, hrun, hended, _, _, rfl, ?_, ⟨_, rfl⟩, hW, hsame.mono (by decide) (by decide)⟩
        · exact retI X0 hx Bd.returns (hb hby d6_69) hr
        · show Q6 Z p0 h0 n0 _ s₁.heap _
          rw [e0]
          exact ⟨congrArg (fun z => some (Value.int z)) (show f6 p0 = (-1 : Int32) from (by unfold f6; rw [if_pos hc3_2, if_pos hc23_4, if_pos hc46_6])).symm, N0, rfl⟩
      · have k8 : own_Go p e below (s₁.setTop (entryFrame m #[(.int p0)] 2)) (s₁.setTop (mkF m 52 #[.val (.int p0), .unset] [(.int (102 : Int32)), (.int p0)])) := by
          intro t k
          refine k5 t ?_
          show Steps p.tables e below (s₁.setTop (mkF m 46 #[.val (.int p0), .unset] [(.int (97 : Int32)), (.int p0)])) t
          refine XS.icmpNo X0.here hx rfl (hb hby d6_46) rfl (flt hc46_6).1 ?_
          show Steps p.tables e below (s₁.setTop (mkF m 49 #[.val (.int p0), .unset] [])) t
          refine XS.iloadN X0.here hx rfl (hb hby d6_49) rfl ?_
          show Steps p.tables e below (s₁.setTop (mkF m 50 #[.val (.int p0), .unset] [(.int p0)])) t
          refine XS.bipush X0.here hx rfl (hb hby d6_50) ?_
          exact k
        by_cases hc52_9 : (102 : Int32) < p0
        · have k10 : own_Go p e below (s₁.setTop (entryFrame m #[(.int p0)] 2)) (s₁.setTop (mkF m 69 #[.val (.int p0), .val (.int (-1 : Int32))] [(.int (-1 : Int32))])) := by
            intro t k
            refine k8 t ?_
            show Steps p.tables e below (s₁.setTop (mkF m 52 #[.val (.int p0), .unset] [(.int (102 : Int32)), (.int p0)])) t
            refine XS.icmpYes X0.here hx rfl (pc0 := 52) (pc' := 66) rfl (hb hby d6_52) rfl (tlt hc52_9).2.2.1 (by decide) (by decide) ?_
            show Steps p.tables e below (s₁.setTop (mkF m 66 #[.val (.int p0), .unset] [])) t
            refine XS.iconst X0.here hx rfl (hb hby d6_66) ?_
            show Steps p.tables e below (s₁.setTop (mkF m 67 #[.val (.int p0), .unset] [(.int (-1 : Int32))])) t
            refine XS.istoreN X0.here hx rfl (hb hby d6_67) rfl (l' := #[.val (.int p0), .val (.int (-1 : Int32))]) rfl ?_
            show Steps p.tables e below (s₁.setTop (mkF m 68 #[.val (.int p0), .val (.int (-1 : Int32))] [])) t
            refine XS.iloadN X0.here hx rfl (hb hby d6_68) rfl ?_
            exact k
          obtain ⟨fs, hr, hrun, hended, hW, hsame⟩ := X0.leave (v := some (.int (-1 : Int32))) (fun h => by rw [Bd.returns] at h; cases h)
          refine ⟨_, _, k10 _ ?_, hrun, hended, _, _, rfl, ?_, ⟨_, rfl⟩, hW, hsame.mono (by decide) (by decide)⟩
          · exact retI X0 hx Bd.returns (hb hby d6_69) hr
          · show Q6 Z p0 h0 n0 _ s₁.heap _
            rw [e0]
            exact ⟨congrArg (fun z => some (Value.int z)) (show f6 p0 = (-1 : Int32) from (by unfold f6; rw [if_pos hc3_2, if_pos hc23_4, if_neg hc46_6, if_pos hc52_9])).symm, N0, rfl⟩
        · have k11 : own_Go p e below (s₁.setTop (entryFrame m #[(.int p0)] 2)) (s₁.setTop (mkF m 69 #[.val (.int p0), .val (.int (v6_62 p0))] [(.int (v6_62 p0))])) := by
            intro t k
            refine k8 t ?_
            show Steps p.tables e below (s₁.setTop (mkF m 52 #[.val (.int p0), .unset] [(.int (102 : Int32)), (.int p0)])) t
            refine XS.icmpNo X0.here hx rfl (hb hby d6_52) rfl (flt hc52_9).2.2.1 ?_
            show Steps p.tables e below (s₁.setTop (mkF m 55 #[.val (.int p0), .unset] [])) t
            refine XS.iloadN X0.here hx rfl (hb hby d6_55) rfl ?_
            show Steps p.tables e below (s₁.setTop (mkF m 56 #[.val (.int p0), .unset] [(.int p0)])) t
            refine XS.bipush X0.here hx rfl (hb hby d6_56) ?_
            show Steps p.tables e below (s₁.setTop (mkF m 58 #[.val (.int p0), .unset] [(.int (97 : Int32)), (.int p0)])) t
            refine XS.isub X0.here hx rfl (hb hby d6_58) rfl ?_
            show Steps p.tables e below (s₁.setTop (mkF m 59 #[.val (.int p0), .unset] [(.int (p0 - (97 : Int32)))])) t
            refine XS.bipush X0.here hx rfl (hb hby d6_59) ?_
            show Steps p.tables e below (s₁.setTop (mkF m 61 #[.val (.int p0), .unset] [(.int (10 : Int32)), (.int (p0 - (97 : Int32)))])) t
            refine XS.iadd X0.here hx rfl (hb hby d6_61) rfl ?_
            show Steps p.tables e below (s₁.setTop (mkF m 62 #[.val (.int p0), .unset] [(.int ((p0 - (97 : Int32)) + (10 : Int32)))])) t
            refine XS.istoreN X0.here hx rfl (hb hby d6_62) rfl (l' := #[.val (.int p0), .val (.int (v6_62 p0))]) rfl ?_
            show Steps p.tables e below (s₁.setTop (mkF m 63 #[.val (.int p0), .val (.int (v6_62 p0))] [])) t
            refine XS.goto X0.here hx rfl (pc0 := 63) (pc' := 68) rfl (hb hby d6_63) (by decide) (by decide) ?_
            show Steps p.tables e below (s₁.setTop (mkF m 68 #[.val (.int p0), .val (.int (v6_62 p0))] [])) t
            refine XS.iloadN X0.here hx rfl (hb hby d6_68) rfl ?_
            exact k
          obtain ⟨fs, hr, hrun, hended, hW, hsame⟩ := X0.leave (v := some (.int (v6_62 p0))) (fun h => by rw [Bd.returns] at h; cases h)
          refine ⟨_, _, k11 _ ?_, hrun, hended, _, _, rfl, ?_, ⟨_, rfl⟩, hW, hsame.mono (by decide) (by decide)⟩
          · exact retI X0 hx Bd.returns (hb hby d6_69) hr
          · show Q6 Z p0 h0 n0 _ s₁.heap _
            rw [e0]
            exact ⟨congrArg (fun z => some (Value.int z)) (show f6 p0 = (v6_62 p0) from (by unfold f6; rw [if_pos hc3_2, if_pos hc23_4, if_neg hc46_6, if_neg hc52_9])).symm, N0, rfl⟩
    · have k12 : own_Go p e below (s₁.setTop (entryFrame m #[(.int p0)] 2)) (s₁.setTop (mkF m 29 #[.val (.int p0), .unset] [(.int (70 : Int32)), (.int p0)])) := by
        intro t k
        refine k3 t ?_
        show Steps p.tables e below (s₁.setTop (mkF m 23 #[.val (.int p0), .unset] [(.int (65 : Int32)), (.int p0)])) t
        refine XS.icmpNo X0.here hx rfl (hb hby d6_23) rfl (flt hc23_4).1 ?_
        show Steps p.tables e below (s₁.setTop (mkF m 26 #[.val (.int p0), .unset] [])) t
        refine XS.iloadN X0.here hx rfl (hb hby d6_26) rfl ?_
        show Steps p.tables e below (s₁.setTop (mkF m 27 #[.val (.int p0), .unset] [(.int p0)])) t
        refine XS.bipush X0.here hx rfl (hb hby d6_27) ?_
        exact k
      by_cases hc29_13 : (70 : Int32) < p0
      · have k14 : own_Go p e below (s₁.setTop (entryFrame m #[(.int p0)] 2)) (s₁.setTop (mkF m 46 #[.val (.int p0), .unset] [(.int (97 : Int32)), (.int p0)])) := by
          intro t k
          refine k12 t ?_
          show Steps p.tables e below (s₁.setTop (mkF m 29 #[.val (.int p0), .unset] [(.int (70 : Int32)), (.int p0)])) t
          refine XS.icmpYes X0.here hx rfl (pc0 := 29) (pc' := 43) rfl (hb hby d6_29) rfl (tlt hc29_13).2.2.1 (by decide) (by decide) ?_
          show Steps p.tables e below (s₁.setTop (mkF m 43 #[.val (.int p0), .unset] [])) t
          refine XS.iloadN X0.here hx rfl (hb hby d6_43) rfl ?_
          show Steps p.tables e below (s₁.setTop (mkF m 44 #[.val (.int p0), .unset] [(.int p0)])) t
          refine XS.bipush X0.here hx rfl (hb hby d6_44) ?_
          exact k
        by_cases hc46_15 : p0 < (97 : Int32)
        · have k16 : own_Go p e below (s₁.setTop (entryFrame m #[(.int p0)] 2)) (s₁.setTop (mkF m 69 #[.val (.int p0), .val (.int (-1 : Int32))] [(.int (-1 : Int32))])) := by
            intro t k
            refine k14 t ?_
            show Steps p.tables e below (s₁.setTop (mkF m 46 #[.val (.int p0), .unset] [(.int (97 : Int32)), (.int p0)])) t
            refine XS.icmpYes X0.here hx rfl (pc0 := 46) (pc' := 66) rfl (hb hby d6_46) rfl (tlt hc46_15).1 (by decide) (by decide) ?_
            show Steps p.tables e below (s₁.setTop (mkF m 66 #[.val (.int p0), .unset] [])) t
            refine XS.iconst X0.here hx rfl (hb hby d6_66) ?_
            show Steps p.tables e below (s₁.setTop (mkF m 67 #[.val (.int p0), .unset] [(.int (-1 : Int32))])) t
            refine XS.istoreN X0.here hx rfl (hb hby d6_67) rfl (l' := #[.val (.int p0), .val (.int (-1 : Int32))]) rfl ?_
            show Steps p.tables e below (s₁.setTop (mkF m 68 #[.val (.int p0), .val (.int (-1 : Int32))] [])) t
            refine XS.iloadN X0.here hx rfl (hb hby d6_68) rfl ?_
            exact k
          obtain ⟨fs, hr, hrun, hended, hW, hsame⟩ := X0.leave (v := some (.int (-1 : Int32))) (fun h => by rw [Bd.returns] at h; cases h)
          refine ⟨_, _, k16 _ ?_, hrun, hended, _, _, rfl, ?_, ⟨_, rfl⟩, hW, hsame.mono (by decide) (by decide)⟩
          · exact retI X0 hx Bd.returns (hb hby d6_69) hr
          · show Q6 Z p0 h0 n0 _ s₁.heap _
            rw [e0]
            exact ⟨congrArg (fun z => some (Value.int z)) (show f6 p0 = (-1 : Int32) from (by unfold f6; rw [if_pos hc3_2, if_neg hc23_4, if_pos hc29_13, if_pos hc46_15])).symm, N0, rfl⟩
        · have k17 : own_Go p e below (s₁.setTop (entryFrame m #[(.int p0)] 2)) (s₁.setTop (mkF m 52 #[.val (.int p0), .unset] [(.int (102 : Int32)), (.int p0)])) := by
            intro t k
            refine k14 t ?_
            show Steps p.tables e below (s₁.setTop (mkF m 46 #[.val (.int p0), .unset] [(.int (97 : Int32)), (.int p0)])) t
            refine XS.icmpNo X0.here hx rfl (hb hby d6_46) rfl (flt hc46_15).1 ?_
            show Steps p.tables e below (s₁.setTop (mkF m 49 #[.val (.int p0), .unset] [])) t
            refine XS.iloadN X0.here hx rfl (hb hby d6_49) rfl ?_
            show Steps p.tables e below (s₁.setTop (mkF m 50 #[.val (.int p0), .unset] [(.int p0)])) t
            refine XS.bipush X0.here hx rfl (hb hby d6_50) ?_
            exact k
          by_cases hc52_18 : (102 : Int32) < p0
          · have k19 : own_Go p e below (s₁.setTop (entryFrame m #[(.int p0)] 2)) (s₁.setTop (mkF m 69 #[.val (.int p0), .val (.int (-1 : Int32))] [(.int (-1 : Int32))])) := by
              intro t k
              refine k17 t ?_
              show Steps p.tables e below (s₁.setTop (mkF m 52 #[.val (.int p0), .unset] [(.int (102 : Int32)), (.int p0)])) t
              refine XS.icmpYes X0.here hx rfl (pc0 := 52) (pc' := 66) rfl (hb hby d6_52) rfl (tlt hc52_18).2.2.1 (by decide) (by decide) ?_
              show Steps p.tables e below (s₁.setTop (mkF m 66 #[.val (.int p0), .unset] [])) t
              refine XS.iconst X0.here hx rfl (hb hby d6_66) ?_
              show Steps p.tables e below (s₁.setTop (mkF m 67 #[.val (.int p0), .unset] [(.int (-1 : Int32))])) t
              refine XS.istoreN X0.here hx rfl (hb hby d6_67) rfl (l' := #[.val (.int p0), .val (.int (-1 : Int32))]) rfl ?_
              show Steps p.tables e below (s₁.setTop (mkF m 68 #[.val (.int p0), .val (.int (-1 : Int32))] [])) t
              refine XS.iloadN X0.here hx rfl (hb hby d6_68) rfl ?_
              exact k
            obtain ⟨fs, hr, hrun, hended, hW, hsame⟩ := X0.leave (v := some (.int (-1 : Int32))) (fun h => by rw [Bd.returns] at h; cases h)
            refine ⟨_, _, k19 _ ?_, hrun, hended, _, _, rfl, ?_, ⟨_, rfl⟩, hW, hsame.mono (by decide) (by decide)⟩
            · exact retI X0 hx Bd.returns (hb hby d6_69) hr
            · show Q6 Z p0 h0 n0 _ s₁.heap _
              rw [e0]
              exact ⟨congrArg (fun z => some (Value.int z)) (show f6 p0 = (-1 : Int32) from (by unfold f6; rw [if_pos hc3_2, if_neg hc23_4, if_pos hc29_13, if_neg hc46_15, if_pos hc52_18])).symm, N0, rfl⟩
          · have k20 : own_Go p e below (s₁.setTop (entryFrame m #[(.int p0)] 2)) (s₁.setTop (mkF m 69 #[.val (.int p0), .val (.int (v6_62 p0))] [(.int (v6_62 p0))])) := by
              intro t k
              refine k17 t ?_
              show Steps p.tables e below (s₁.setTop (mkF m 52 #[.val (.int p0), .unset] [(.int (102 : Int32)), (.int p0)])) t
              refine XS.icmpNo X0.here hx rfl (hb hby d6_52) rfl (flt hc52_18).2.2.1 ?_
              show Steps p.tables e below (s₁.setTop (mkF m 55 #[.val (.int p0), .unset] [])) t
              refine XS.iloadN X0.here hx rfl (hb hby d6_55) rfl ?_
              show Steps p.tables e below (s₁.setTop (mkF m 56 #[.val (.int p0), .unset] [(.int p0)])) t
              refine XS.bipush X0.here hx rfl (hb hby d6_56) ?_
              show Steps p.tables e below (s₁.setTop (mkF m 58 #[.val (.int p0), .unset] [(.int (97 : Int32)), (.int p0)])) t
              refine XS.isub X0.here hx rfl (hb hby d6_58) rfl ?_
              show Steps p.tables e below (s₁.setTop (mkF m 59 #[.val (.int p0), .unset] [(.int (p0 - (97 : Int32)))])) t
              refine XS.bipush X0.here hx rfl (hb hby d6_59) ?_
              show Steps p.tables e below (s₁.setTop (mkF m 61 #[.val (.int p0), .unset] [(.int (10 : Int32)), (.int (p0 - (97 : Int32)))])) t
              refine XS.iadd X0.here hx rfl (hb hby d6_61) rfl ?_
              show Steps p.tables e below (s₁.setTop (mkF m 62 #[.val (.int p0), .unset] [(.int ((p0 - (97 : Int32)) + (10 : Int32)))])) t
              refine XS.istoreN X0.here hx rfl (hb hby d6_62) rfl (l' := #[.val (.int p0), .val (.int (v6_62 p0))]) rfl ?_
              show Steps p.tables e below (s₁.setTop (mkF m 63 #[.val (.int p0), .val (.int (v6_62 p0))] [])) t
              refine XS.goto X0.here hx rfl (pc0 := 63) (pc' := 68) rfl (hb hby d6_63) (by decide) (by decide) ?_
              show Steps p.tables e below (s₁.setTop (mkF m 68 #[.val (.int p0), .val (.int (v6_62 p0))] [])) t
              refine XS.iloadN X0.here hx rfl (hb hby d6_68) rfl ?_
              exact k
            obtain ⟨fs, hr, hrun, hended, hW, hsame⟩ := X0.leave (v := some (.int (v6_62 p0))) (fun h => by rw [Bd.returns] at h; cases h)
            refine ⟨_, _, k20 _ ?_, hrun, hended, _, _, rfl, ?_, ⟨_, rfl⟩, hW, hsame.mono (by decide) (by decide)⟩
            · exact retI X0 hx Bd.returns (hb hby d6_69) hr
            · show Q6 Z p0 h0 n0 _ s₁.heap _
              rw [e0]
              exact ⟨congrArg (fun z => some (Value.int z)) (show f6 p0 = (v6_62 p0) from (by unfold f6; rw [if_pos hc3_2, if_neg hc23_4, if_pos hc29_13, if_neg hc46_15, if_neg hc52_18])).symm, N0, rfl⟩
      · have k21 : own_Go p e below (s₁.setTop (entryFrame m #[(.int p0)] 2)) (s₁.setTop (mkF m 69 #[.val (.int p0), .val (.int (v6_39 p0))] [(.int (v6_39 p0))])) := by
          intro t k
          refine k12 t ?_
          show Steps p.tables e below (s₁.setTop (mkF m 29 #[.val (.int p0), .unset] [(.int (70 : Int32)), (.int p0)])) t
          refine XS.icmpNo X0.here hx rfl (hb hby d6_29) rfl (flt hc29_13).2.2.1 ?_
          show Steps p.tables e below (s₁.setTop (mkF m 32 #[.val (.int p0), .unset] [])) t
          refine XS.iloadN X0.here hx rfl (hb hby d6_32) rfl ?_
          show Steps p.tables e below (s₁.setTop (mkF m 33 #[.val (.int p0), .unset] [(.int p0)])) t
          refine XS.bipush X0.here hx rfl (hb hby d6_33) ?_
          show Steps p.tables e below (s₁.setTop (mkF m 35 #[.val (.int p0), .unset] [(.int (65 : Int32)), (.int p0)])) t
          refine XS.isub X0.here hx rfl (hb hby d6_35) rfl ?_
          show Steps p.tables e below (s₁.setTop (mkF m 36 #[.val (.int p0), .unset] [(.int (p0 - (65 : Int32)))])) t
          refine XS.bipush X0.here hx rfl (hb hby d6_36) ?_
          show Steps p.tables e below (s₁.setTop (mkF m 38 #[.val (.int p0), .unset] [(.int (10 : Int32)), (.int (p0 - (65 : Int32)))])) t
          refine XS.iadd X0.here hx rfl (hb hby d6_38) rfl ?_
          show Steps p.tables e below (s₁.setTop (mkF m 39 #[.val (.int p0), .unset] [(.int ((p0 - (65 : Int32)) + (10 : Int32)))])) t
          refine XS.istoreN X0.here hx rfl (hb hby d6_39) rfl (l' := #[.val (.int p0), .val (.int (v6_39 p0))]) rfl ?_
          show Steps p.tables e below (s₁.setTop (mkF m 40 #[.val (.int p0), .val (.int (v6_39 p0))] [])) t
          refine XS.goto X0.here hx rfl (pc0 := 40) (pc' := 68) rfl (hb hby d6_40) (by decide) (by decide) ?_
          show Steps p.tables e below (s₁.setTop (mkF m 68 #[.val (.int p0), .val (.int (v6_39 p0))] [])) t
          refine XS.iloadN X0.here hx rfl (hb hby d6_68) rfl ?_
          exact k
        obtain ⟨fs, hr, hrun, hended, hW, hsame⟩ := X0.leave (v := some (.int (v6_39 p0))) (fun h => by rw [Bd.returns] at h; cases h)
        refine ⟨_, _, k21 _ ?_, hrun, hended, _, _, rfl, ?_, ⟨_, rfl⟩, hW, hsame.mono (by decide) (by decide)⟩
        · exact retI X0 hx Bd.returns (hb hby d6_69) hr
        · show Q6 Z p0 h0 n0 _ s₁.heap _
          rw [e0]
          exact ⟨congrArg (fun z => some (Value.int z)) (show f6 p0 = (v6_39 p0) from (by unfold f6; rw [if_pos hc3_2, if_neg hc23_4, if_neg hc29_13])).symm, N0, rfl⟩
  · have k22 : own_Go p e below (s₁.setTop (entryFrame m #[(.int p0)] 2)) (s₁.setTop (mkF m 9 #[.val (.int p0), .unset] [(.int (57 : Int32)), (.int p0)])) := by
      intro t k
      refine k1 t ?_
      show Steps p.tables e below (s₁.setTop (mkF m 3 #[.val (.int p0), .unset] [(.int (48 : Int32)), (.int p0)])) t
      refine XS.icmpNo X0.here hx rfl (hb hby d6_3) rfl (flt hc3_2).1 ?_
      show Steps p.tables e below (s₁.setTop (mkF m 6 #[.val (.int p0), .unset] [])) t
      refine XS.iloadN X0.here hx rfl (hb hby d6_6) rfl ?_
      show Steps p.tables e below (s₁.setTop (mkF m 7 #[.val (.int p0), .unset] [(.int p0)])) t
      refine XS.bipush X0.here hx rfl (hb hby d6_7) ?_
      exact k
    by_cases hc9_23 : (57 : Int32) < p0
    · have k24 : own_Go p e below (s₁.setTop (entryFrame m #[(.int p0)] 2)) (s₁.setTop (mkF m 23 #[.val (.int p0), .unset] [(.int (65 : Int32)), (.int p0)])) := by
        intro t k
        refine k22 t ?_
        show Steps p.tables e below (s₁.setTop (mkF m 9 #[.val (.int p0), .unset] [(.int (57 : Int32)), (.int p0)])) t
        refine XS.icmpYes X0.here hx rfl (pc0 := 9) (pc' := 20) rfl (hb hby d6_9) rfl (tlt hc9_23).2.2.1 (by decide) (by decide) ?_
        show Steps p.tables e below (s₁.setTop (mkF m 20 #[.val (.int p0), .unset] [])) t
        refine XS.iloadN X0.here hx rfl (hb hby d6_20) rfl ?_
        show Steps p.tables e below (s₁.setTop (mkF m 21 #[.val (.int p0), .unset] [(.int p0)])) t
        refine XS.bipush X0.here hx rfl (hb hby d6_21) ?_
        exact k
      by_cases hc23_25 : p0 < (65 : Int32)
      · have k26 : own_Go p e below (s₁.setTop (entryFrame m #[(.int p0)] 2)) (s₁.setTop (mkF m 46 #[.val (.int p0), .unset] [(.int (97 : Int32)), (.int p0)])) := by
          intro t k
          refine k24 t ?_
          show Steps p.tables e below (s₁.setTop (mkF m 23 #[.val (.int p0), .unset] [(.int (65 : Int32)), (.int p0)])) t
          refine XS.icmpYes X0.here hx rfl (pc0 := 23) (pc' := 43) rfl (hb hby d6_23) rfl (tlt hc23_25).1 (by decide) (by decide) ?_
          show Steps p.tables e below (s₁.setTop (mkF m 43 #[.val (.int p0), .unset] [])) t
          refine XS.iloadN X0.here hx rfl (hb hby d6_43) rfl ?_
          show Steps p.tables e below (s₁.setTop (mkF m 44 #[.val (.int p0), .unset] [(.int p0)])) t
          refine XS.bipush X0.here hx rfl (hb hby d6_44) ?_
          exact k
        by_cases hc46_27 : p0 < (97 : Int32)
        · have k28 : own_Go p e below (s₁.setTop (entryFrame m #[(.int p0)] 2)) (s₁.setTop (mkF m 69 #[.val (.int p0), .val (.int (-1 : Int32))] [(.int (-1 : Int32))])) := by
            intro t k
            refine k26 t ?_
            show Steps p.tables e below (s₁.setTop (mkF m 46 #[.val (.int p0), .unset] [(.int (97 : Int32)), (.int p0)])) t
            refine XS.icmpYes X0.here hx rfl (pc0 := 46) (pc' := 66) rfl (hb hby d6_46) rfl (tlt hc46_27).1 (by decide) (by decide) ?_
            show Steps p.tables e below (s₁.setTop (mkF m 66 #[.val (.int p0), .unset] [])) t
            refine XS.iconst X0.here hx rfl (hb hby d6_66) ?_
            show Steps p.tables e below (s₁.setTop (mkF m 67 #[.val (.int p0), .unset] [(.int (-1 : Int32))])) t
            refine XS.istoreN X0.here hx rfl (hb hby d6_67) rfl (l' := #[.val (.int p0), .val (.int (-1 : Int32))]) rfl ?_
            show Steps p.tables e below (s₁.setTop (mkF m 68 #[.val (.int p0), .val (.int (-1 : Int32))] [])) t
            refine XS.iloadN X0.here hx rfl (hb hby d6_68) rfl ?_
            exact k
          obtain ⟨fs, hr, hrun, hended, hW, hsame⟩ := X0.leave (v := some (.int (-1 : Int32))) (fun h => by rw [Bd.returns] at h; cases h)
          refine ⟨_, _, k28 _ ?_, hrun, hended, _, _, rfl, ?_, ⟨_, rfl⟩, hW, hsame.mono (by decide) (by decide)⟩
          · exact retI X0 hx Bd.returns (hb hby d6_69) hr
          · show Q6 Z p0 h0 n0 _ s₁.heap _
            rw [e0]
            exact ⟨congrArg (fun z => some (Value.int z)) (show f6 p0 = (-1 : Int32) from (by unfold f6; rw [if_neg hc3_2, if_pos hc9_23, if_pos hc23_25, if_pos hc46_27])).symm, N0, rfl⟩
        · have k29 : own_Go p e below (s₁.setTop (entryFrame m #[(.int p0)] 2)) (s₁.setTop (mkF m 52 #[.val (.int p0), .unset] [(.int (102 : Int32)), (.int p0)])) := by
            intro t k
            refine k26 t ?_
            show Steps p.tables e below (s₁.setTop (mkF m 46 #[.val (.int p0), .unset] [(.int (97 : Int32)), (.int p0)])) t
            refine XS.icmpNo X0.here hx rfl (hb hby d6_46) rfl (flt hc46_27).1 ?_
            show Steps p.tables e below (s₁.setTop (mkF m 49 #[.val (.int p0), .unset] [])) t
            refine XS.iloadN X0.here hx rfl (hb hby d6_49) rfl ?_
            show Steps p.tables e below (s₁.setTop (mkF m 50 #[.val (.int p0), .unset] [(.int p0)])) t
            refine XS.bipush X0.here hx rfl (hb hby d6_50) ?_
            exact k
          by_cases hc52_30 : (102 : Int32) < p0
          · have k31 : own_Go p e below (s₁.setTop (entryFrame m #[(.int p0)] 2)) (s₁.setTop (mkF m 69 #[.val (.int p0), .val (.int (-1 : Int32))] [(.int (-1 : Int32))])) := by
              intro t k
              refine k29 t ?_
              show Steps p.tables e below (s₁.setTop (mkF m 52 #[.val (.int p0), .unset] [(.int (102 : Int32)), (.int p0)])) t
              refine XS.icmpYes X0.here hx rfl (pc0 := 52) (pc' := 66) rfl (hb hby d6_52) rfl (tlt hc52_30).2.2.1 (by decide) (by decide) ?_
              show Steps p.tables e below (s₁.setTop (mkF m 66 #[.val (.int p0), .unset] [])) t
              refine XS.iconst X0.here hx rfl (hb hby d6_66) ?_
              show Steps p.tables e below (s₁.setTop (mkF m 67 #[.val (.int p0), .unset] [(.int (-1 : Int32))])) t
              refine XS.istoreN X0.here hx rfl (hb hby d6_67) rfl (l' := #[.val (.int p0), .val (.int (-1 : Int32))]) rfl ?_
              show Steps p.tables e below (s₁.setTop (mkF m 68 #[.val (.int p0), .val (.int (-1 : Int32))] [])) t
              refine XS.iloadN X0.here hx rfl (hb hby d6_68) rfl ?_
              exact k
            obtain ⟨fs, hr, hrun, hended, hW, hsame⟩ := X0.leave (v := some (.int (-1 : Int32))) (fun h => by rw [Bd.returns] at h; cases h)
            refine ⟨_, _, k31 _ ?_, hrun, hended, _, _, rfl, ?_, ⟨_, rfl⟩, hW, hsame.mono (by decide) (by decide)⟩
            · exact retI X0 hx Bd.returns (hb hby d6_69) hr
            · show Q6 Z p0 h0 n0 _ s₁.heap _
              rw [e0]
              exact ⟨congrArg (fun z => some (Value.int z)) (show f6 p0 = (-1 : Int32) from (by unfold f6; rw [if_neg hc3_2, if_pos hc9_23, if_pos hc23_25, if_neg hc46_27, if_pos hc52_30])).symm, N0, rfl⟩
          · have k32 : own_Go p e below (s₁.setTop (entryFrame m #[(.int p0)] 2)) (s₁.setTop (mkF m 69 #[.val (.int p0), .val (.int (v6_62 p0))] [(.int (v6_62 p0))])) := by
              intro t k
              refine k29 t ?_
              show Steps p.tables e below (s₁.setTop (mkF m 52 #[.val (.int p0), .unset] [(.int (102 : Int32)), (.int p0)])) t
              refine XS.icmpNo X0.here hx rfl (hb hby d6_52) rfl (flt hc52_30).2.2.1 ?_
              show Steps p.tables e below (s₁.setTop (mkF m 55 #[.val (.int p0), .unset] [])) t
              refine XS.iloadN X0.here hx rfl (hb hby d6_55) rfl ?_
              show Steps p.tables e below (s₁.setTop (mkF m 56 #[.val (.int p0), .unset] [(.int p0)])) t
              refine XS.bipush X0.here hx rfl (hb hby d6_56) ?_
              show Steps p.tables e below (s₁.setTop (mkF m 58 #[.val (.int p0), .unset] [(.int (97 : Int32)), (.int p0)])) t
              refine XS.isub X0.here hx rfl (hb hby d6_58) rfl ?_
              show Steps p.tables e below (s₁.setTop (mkF m 59 #[.val (.int p0), .unset] [(.int (p0 - (97 : Int32)))])) t
              refine XS.bipush X0.here hx rfl (hb hby d6_59) ?_
              show Steps p.tables e below (s₁.setTop (mkF m 61 #[.val (.int p0), .unset] [(.int (10 : Int32)), (.int (p0 - (97 : Int32)))])) t
              refine XS.iadd X0.here hx rfl (hb hby d6_61) rfl ?_
              show Steps p.tables e below (s₁.setTop (mkF m 62 #[.val (.int p0), .unset] [(.int ((p0 - (97 : Int32)) + (10 : Int32)))])) t
              refine XS.istoreN X0.here hx rfl (hb hby d6_62) rfl (l' := #[.val (.int p0), .val (.int (v6_62 p0))]) rfl ?_
              show Steps p.tables e below (s₁.setTop (mkF m 63 #[.val (.int p0), .val (.int (v6_62 p0))] [])) t
              refine XS.goto X0.here hx rfl (pc0 := 63) (pc' := 68) rfl (hb hby d6_63) (by decide) (by decide) ?_
              show Steps p.tables e below (s₁.setTop (mkF m 68 #[.val (.int p0), .val (.int (v6_62 p0))] [])) t
              refine XS.iloadN X0.here hx rfl (hb hby d6_68) rfl ?_
              exact k
            obtain ⟨fs, hr, hrun, hended, hW, hsame⟩ := X0.leave (v := some (.int (v6_62 p0))) (fun h => by rw [Bd.returns] at h; cases h)
            refine ⟨_, _, k32 _ ?_, hrun, hended, _, _, rfl, ?_, ⟨_, rfl⟩, hW, hsame.mono (by decide) (by decide)⟩
            · exact retI X0 hx Bd.returns (hb hby d6_69) hr
            · show Q6 Z p0 h0 n0 _ s₁.heap _
              rw [e0]
              exact ⟨congrArg (fun z => some (Value.int z)) (show f6 p0 = (v6_62 p0) from (by unfold f6; rw [if_neg hc3_2, if_pos hc9_23, if_pos hc23_25, if_neg hc46_27, if_neg hc52_30])).symm, N0, rfl⟩
      · have k33 : own_Go p e below (s₁.setTop (entryFrame m #[(.int p0)] 2)) (s₁.setTop (mkF m 29 #[.val (.int p0), .unset] [(.int (70 : Int32)), (.int p0)])) := by
          intro t k
          refine k24 t ?_
          show Steps p.tables e below (s₁.setTop (mkF m 23 #[.val (.int p0), .unset] [(.int (65 : Int32)), (.int p0)])) t
          refine XS.icmpNo X0.here hx rfl (hb hby d6_23) rfl (flt hc23_25).1 ?_
          show Steps p.tables e below (s₁.setTop (mkF m 26 #[.val (.int p0), .unset] [])) t
          refine XS.iloadN X0.here hx rfl (hb hby d6_26) rfl ?_
          show Steps p.tables e below (s₁.setTop (mkF m 27 #[.val (.int p0), .unset] [(.int p0)])) t
          refine XS.bipush X0.here hx rfl (hb hby d6_27) ?_
          exact k
        by_cases hc29_34 : (70 : Int32) < p0
        · have k35 : own_Go p e below (s₁.setTop (entryFrame m #[(.int p0)] 2)) (s₁.setTop (mkF m 46 #[.val (.int p0), .unset] [(.int (97 : Int32)), (.int p0)])) := by
            intro t k
            refine k33 t ?_
            show Steps p.tables e below (s₁.setTop (mkF m 29 #[.val (.int p0), .unset] [(.int (70 : Int32)), (.int p0)])) t
            refine XS.icmpYes X0.here hx rfl (pc0 := 29) (pc' := 43) rfl (hb hby d6_29) rfl (tlt hc29_34).2.2.1 (by decide) (by decide) ?_
            show Steps p.tables e below (s₁.setTop (mkF m 43 #[.val (.int p0), .unset] [])) t
            refine XS.iloadN X0.here hx rfl (hb hby d6_43) rfl ?_
            show Steps p.tables e below (s₁.setTop (mkF m 44 #[.val (.int p0), .unset] [(.int p0)])) t
            refine XS.bipush X0.here hx rfl (hb hby d6_44) ?_
            exact k
          by_cases hc46_36 : p0 < (97 : Int32)
          · have k37 : own_Go p e below (s₁.setTop (entryFrame m #[(.int p0)] 2)) (s₁.setTop (mkF m 69 #[.val (.int p0), .val (.int (-1 : Int32))] [(.int (-1 : Int32))])) := by
              intro t k
              refine k35 t ?_
              show Steps p.tables e below (s₁.setTop (mkF m 46 #[.val (.int p0), .unset] [(.int (97 : Int32)), (.int p0)])) t
              refine XS.icmpYes X0.here hx rfl (pc0 := 46) (pc' := 66) rfl (hb hby d6_46) rfl (tlt hc46_36).1 (by decide) (by decide) ?_
              show Steps p.tables e below (s₁.setTop (mkF m 66 #[.val (.int p0), .unset] [])) t
              refine XS.iconst X0.here hx rfl (hb hby d6_66) ?_
              show Steps p.tables e below (s₁.setTop (mkF m 67 #[.val (.int p0), .unset] [(.int (-1 : Int32))])) t
              refine XS.istoreN X0.here hx rfl (hb hby d6_67) rfl (l' := #[.val (.int p0), .val (.int (-1 : Int32))]) rfl ?_
              show Steps p.tables e below (s₁.setTop (mkF m 68 #[.val (.int p0), .val (.int (-1 : Int32))] [])) t
              refine XS.iloadN X0.here hx rfl (hb hby d6_68) rfl ?_
              exact k
            obtain ⟨fs, hr, hrun, hended, hW, hsame⟩ := X0.leave (v := some (.int (-1 : Int32))) (fun h => by rw [Bd.returns] at h; cases h)
            refine ⟨_, _, k37 _ ?_, hrun, hended, _, _, rfl, ?_, ⟨_, rfl⟩, hW, hsame.mono (by decide) (by decide)⟩
            · exact retI X0 hx Bd.returns (hb hby d6_69) hr
            · show Q6 Z p0 h0 n0 _ s₁.heap _
              rw [e0]
              exact ⟨congrArg (fun z => some (Value.int z)) (show f6 p0 = (-1 : Int32) from (by unfold f6; rw [if_neg hc3_2, if_pos hc9_23, if_neg hc23_25, if_pos hc29_34, if_pos hc46_36])).symm, N0, rfl⟩
          · have k38 : own_Go p e below (s₁.setTop (entryFrame m #[(.int p0)] 2)) (s₁.setTop (mkF m 52 #[.val (.int p0), .unset] [(.int (102 : Int32)), (.int p0)])) := by
              intro t k
              refine k35 t ?_
              show Steps p.tables e below (s₁.setTop (mkF m 46 #[.val (.int p0), .unset] [(.int (97 : Int32)), (.int p0)])) t
              refine XS.icmpNo X0.here hx rfl (hb hby d6_46) rfl (flt hc46_36).1 ?_
              show Steps p.tables e below (s₁.setTop (mkF m 49 #[.val (.int p0), .unset] [])) t
              refine XS.iloadN X0.here hx rfl (hb hby d6_49) rfl ?_
              show Steps p.tables e below (s₁.setTop (mkF m 50 #[.val (.int p0), .unset] [(.int p0)])) t
              refine XS.bipush X0.here hx rfl (hb hby d6_50) ?_
              exact k
            by_cases hc52_39 : (102 : Int32) < p0
            · have k40 : own_Go p e below (s₁.setTop (entryFrame m #[(.int p0)] 2)) (s₁.setTop (mkF m 69 #[.val (.int p0), .val (.int (-1 : Int32))] [(.int (-1 : Int32))])) := by
                intro t k
                refine k38 t ?_
                show Steps p.tables e below (s₁.setTop (mkF m 52 #[.val (.int p0), .unset] [(.int (102 : Int32)), (.int p0)])) t
                refine XS.icmpYes X0.here hx rfl (pc0 := 52) (pc' := 66) rfl (hb hby d6_52) rfl (tlt hc52_39).2.2.1 (by decide) (by decide) ?_
                show Steps p.tables e below (s₁.setTop (mkF m 66 #[.val (.int p0), .unset] [])) t
                refine XS.iconst X0.here hx rfl (hb hby d6_66) ?_
                show Steps p.tables e below (s₁.setTop (mkF m 67 #[.val (.int p0), .unset] [(.int (-1 : Int32))])) t
                refine XS.istoreN X0.here hx rfl (hb hby d6_67) rfl (l' := #[.val (.int p0), .val (.int (-1 : Int32))]) rfl ?_
                show Steps p.tables e below (s₁.setTop (mkF m 68 #[.val (.int p0), .val (.int (-1 : Int32))] [])) t
                refine XS.iloadN X0.here hx rfl (hb hby d6_68) rfl ?_
                exact k
              obtain ⟨fs, hr, hrun, hended, hW, hsame⟩ := X0.leave (v := some (.int (-1 : Int32))) (fun h => by rw [Bd.returns] at h; cases h)
              refine ⟨_, _, k40 _ ?_, hrun, hended, _, _, rfl, ?_, ⟨_, rfl⟩, hW, hsame.mono (by decide) (by decide)⟩
              · exact retI X0 hx Bd.returns (hb hby d6_69) hr
              · show Q6 Z p0 h0 n0 _ s₁.heap _
                rw [e0]
                exact ⟨congrArg (fun z => some (Value.int z)) (show f6 p0 = (-1 : Int32) from (by unfold f6; rw [if_neg hc3_2, if_pos hc9_23, if_neg hc23_25, if_pos hc29_34, if_neg hc46_36, if_pos hc52_39])).symm, N0, rfl⟩
            · have k41 : own_Go p e below (s₁.setTop (entryFrame m #[(.int p0)] 2)) (s₁.setTop (mkF m 69 #[.val (.int p0), .val (.int (v6_62 p0))] [(.int (v6_62 p0))])) := by
                intro t k
                refine k38 t ?_
                show Steps p.tables e below (s₁.setTop (mkF m 52 #[.val (.int p0), .unset] [(.int (102 : Int32)), (.int p0)])) t
                refine XS.icmpNo X0.here hx rfl (hb hby d6_52) rfl (flt hc52_39).2.2.1 ?_
                show Steps p.tables e below (s₁.setTop (mkF m 55 #[.val (.int p0), .unset] [])) t
                refine XS.iloadN X0.here hx rfl (hb hby d6_55) rfl ?_
                show Steps p.tables e below (s₁.setTop (mkF m 56 #[.val (.int p0), .unset] [(.int p0)])) t
                refine XS.bipush X0.here hx rfl (hb hby d6_56) ?_
                show Steps p.tables e below (s₁.setTop (mkF m 58 #[.val (.int p0), .unset] [(.int (97 : Int32)), (.int p0)])) t
                refine XS.isub X0.here hx rfl (hb hby d6_58) rfl ?_
                show Steps p.tables e below (s₁.setTop (mkF m 59 #[.val (.int p0), .unset] [(.int (p0 - (97 : Int32)))])) t
                refine XS.bipush X0.here hx rfl (hb hby d6_59) ?_
                show Steps p.tables e below (s₁.setTop (mkF m 61 #[.val (.int p0), .unset] [(.int (10 : Int32)), (.int (p0 - (97 : Int32)))])) t
                refine XS.iadd X0.here hx rfl (hb hby d6_61) rfl ?_
                show Steps p.tables e below (s₁.setTop (mkF m 62 #[.val (.int p0), .unset] [(.int ((p0 - (97 : Int32)) + (10 : Int32)))])) t
                refine XS.istoreN X0.here hx rfl (hb hby d6_62) rfl (l' := #[.val (.int p0), .val (.int (v6_62 p0))]) rfl ?_
                show Steps p.tables e below (s₁.setTop (mkF m 63 #[.val (.int p0), .val (.int (v6_62 p0))] [])) t
                refine XS.goto X0.here hx rfl (pc0 := 63) (pc' := 68) rfl (hb hby d6_63) (by decide) (by decide) ?_
                show Steps p.tables e below (s₁.setTop (mkF m 68 #[.val (.int p0), .val (.int (v6_62 p0))] [])) t
                refine XS.iloadN X0.here hx rfl (hb hby d6_68) rfl ?_
                exact k
              obtain ⟨fs, hr, hrun, hended, hW, hsame⟩ := X0.leave (v := some (.int (v6_62 p0))) (fun h => by rw [Bd.returns] at h; cases h)
              refine ⟨_, _, k41 _ ?_, hrun, hended, _, _, rfl, ?_, ⟨_, rfl⟩, hW, hsame.mono (by decide) (by decide)⟩
              · exact retI X0 hx Bd.returns (hb hby d6_69) hr
              · show Q6 Z p0 h0 n0 _ s₁.heap _
                rw [e0]
                exact ⟨congrArg (fun z => some (Value.int z)) (show f6 p0 = (v6_62 p0) from (by unfold f6; rw [if_neg hc3_2, if_pos hc9_23, if_neg hc23_25, if_pos hc29_34, if_neg hc46_36, if_neg hc52_39])).symm, N0, rfl⟩
        · have k42 : own_Go p e below (s₁.setTop (entryFrame m #[(.int p0)] 2)) (s₁.setTop (mkF m 69 #[.val (.int p0), .val (.int (v6_39 p0))] [(.int (v6_39 p0))])) := by
            intro t k
            refine k33 t ?_
            show Steps p.tables e below (s₁.setTop (mkF m 29 #[.val (.int p0), .unset] [(.int (70 : Int32)), (.int p0)])) t
            refine XS.icmpNo X0.here hx rfl (hb hby d6_29) rfl (flt hc29_34).2.2.1 ?_
            show Steps p.tables e below (s₁.setTop (mkF m 32 #[.val (.int p0), .unset] [])) t
            refine XS.iloadN X0.here hx rfl (hb hby d6_32) rfl ?_
            show Steps p.tables e below (s₁.setTop (mkF m 33 #[.val (.int p0), .unset] [(.int p0)])) t
            refine XS.bipush X0.here hx rfl (hb hby d6_33) ?_
            show Steps p.tables e below (s₁.setTop (mkF m 35 #[.val (.int p0), .unset] [(.int (65 : Int32)), (.int p0)])) t
            refine XS.isub X0.here hx rfl (hb hby d6_35) rfl ?_
            show Steps p.tables e below (s₁.setTop (mkF m 36 #[.val (.int p0), .unset] [(.int (p0 - (65 : Int32)))])) t
            refine XS.bipush X0.here hx rfl (hb hby d6_36) ?_
            show Steps p.tables e below (s₁.setTop (mkF m 38 #[.val (.int p0), .unset] [(.int (10 : Int32)), (.int (p0 - (65 : Int32)))])) t
            refine XS.iadd X0.here hx rfl (hb hby d6_38) rfl ?_
            show Steps p.tables e below (s₁.setTop (mkF m 39 #[.val (.int p0), .unset] [(.int ((p0 - (65 : Int32)) + (10 : Int32)))])) t
            refine XS.istoreN X0.here hx rfl (hb hby d6_39) rfl (l' := #[.val (.int p0), .val (.int (v6_39 p0))]) rfl ?_
            show Steps p.tables e below (s₁.setTop (mkF m 40 #[.val (.int p0), .val (.int (v6_39 p0))] [])) t
            refine XS.goto X0.here hx rfl (pc0 := 40) (pc' := 68) rfl (hb hby d6_40) (by decide) (by decide) ?_
            show Steps p.tables e below (s₁.setTop (mkF m 68 #[.val (.int p0), .val (.int (v6_39 p0))] [])) t
            refine XS.iloadN X0.here hx rfl (hb hby d6_68) rfl ?_
            exact k
          obtain ⟨fs, hr, hrun, hended, hW, hsame⟩ := X0.leave (v := some (.int (v6_39 p0))) (fun h => by rw [Bd.returns] at h; cases h)
          refine ⟨_, _, k42 _ ?_, hrun, hended, _, _, rfl, ?_, ⟨_, rfl⟩, hW, hsame.mono (by decide) (by decide)⟩
          · exact retI X0 hx Bd.returns (hb hby d6_69) hr
          · show Q6 Z p0 h0 n0 _ s₁.heap _
            rw [e0]
            exact ⟨congrArg (fun z => some (Value.int z)) (show f6 p0 = (v6_39 p0) from (by unfold f6; rw [if_neg hc3_2, if_pos hc9_23, if_neg hc23_25, if_neg hc29_34])).symm, N0, rfl⟩
    · have k43 : own_Go p e below (s₁.setTop (entryFrame m #[(.int p0)] 2)) (s₁.setTop (mkF m 69 #[.val (.int p0), .val (.int (p0 - (48 : Int32)))] [(.int (p0 - (48 : Int32)))])) := by
        intro t k
        refine k22 t ?_
        show Steps p.tables e below (s₁.setTop (mkF m 9 #[.val (.int p0), .unset] [(.int (57 : Int32)), (.int p0)])) t
        refine XS.icmpNo X0.here hx rfl (hb hby d6_9) rfl (flt hc9_23).2.2.1 ?_
        show Steps p.tables e below (s₁.setTop (mkF m 12 #[.val (.int p0), .unset] [])) t
        refine XS.iloadN X0.here hx rfl (hb hby d6_12) rfl ?_
        show Steps p.tables e below (s₁.setTop (mkF m 13 #[.val (.int p0), .unset] [(.int p0)])) t
        refine XS.bipush X0.here hx rfl (hb hby d6_13) ?_
        show Steps p.tables e below (s₁.setTop (mkF m 15 #[.val (.int p0), .unset] [(.int (48 : Int32)), (.int p0)])) t
        refine XS.isub X0.here hx rfl (hb hby d6_15) rfl ?_
        show Steps p.tables e below (s₁.setTop (mkF m 16 #[.val (.int p0), .unset] [(.int (p0 - (48 : Int32)))])) t
        refine XS.istoreN X0.here hx rfl (hb hby d6_16) rfl (l' := #[.val (.int p0), .val (.int (p0 - (48 : Int32)))]) rfl ?_
        show Steps p.tables e below (s₁.setTop (mkF m 17 #[.val (.int p0), .val (.int (p0 - (48 : Int32)))] [])) t
        refine XS.goto X0.here hx rfl (pc0 := 17) (pc' := 68) rfl (hb hby d6_17) (by decide) (by decide) ?_
        show Steps p.tables e below (s₁.setTop (mkF m 68 #[.val (.int p0), .val (.int (p0 - (48 : Int32)))] [])) t
        refine XS.iloadN X0.here hx rfl (hb hby d6_68) rfl ?_
        exact k
      obtain ⟨fs, hr, hrun, hended, hW, hsame⟩ := X0.leave (v := some (.int (p0 - (48 : Int32)))) (fun h => by rw [Bd.returns] at h; cases h)
      refine ⟨_, _, k43 _ ?_, hrun, hended, _, _, rfl, ?_, ⟨_, rfl⟩, hW, hsame.mono (by decide) (by decide)⟩
      · exact retI X0 hx Bd.returns (hb hby d6_69) hr
      · show Q6 Z p0 h0 n0 _ s₁.heap _
        rw [e0]
        exact ⟨congrArg (fun z => some (Value.int z)) (show f6 p0 = (p0 - (48 : Int32)) from (by unfold f6; rw [if_neg hc3_2, if_neg hc9_23])).symm, N0, rfl⟩
theorem pn_4 : plainName "com/example/keepout/keepout/match/PercentEncodingHexValuePinLaw" = true := by first | (simp [plainName, overriddenIn]; done) | decide +kernel
theorem pd_4 : parseMethodDescriptor "(I)C" = some ⟨[.int], some .char⟩ := by decide +kernel
theorem pd_5 : parseMethodDescriptor "(C)I" = some ⟨[.char], some .int⟩ := by decide +kernel
theorem ef_0 (m : MethodId) (p0 : Int32) (p1 : Int32) : entryFrame m #[(.int p0), (.int p1)] maxLocals = mkF m 0 #[.val (.int p0), .val (.int p1), .unset, .unset, .unset, .unset, .unset, .unset, .unset] [] := by first | (simp [entryFrame, mkF, argsToLocals, Value.category, maxLocals]; done) | rfl
def m0_45_s0 (p0 : Int32) : Int32 := (if (f6 (f1 (p0 &&& (15 : Int32)) (own_tab [(48 : Int32), (49 : Int32), (50 : Int32), (51 : Int32), (52 : Int32), (53 : Int32), (54 : Int32), (55 : Int32), (56 : Int32), (57 : Int32), (65 : Int32), (66 : Int32), (67 : Int32), (68 : Int32), (69 : Int32), (70 : Int32)]))) = (p0 &&& (15 : Int32)) then (if (f6 (f1 (p0 &&& (15 : Int32)) (own_tab [(48 : Int32), (49 : Int32), (50 : Int32), (51 : Int32), (52 : Int32), (53 : Int32), (54 : Int32), (55 : Int32), (56 : Int32), (57 : Int32), (97 : Int32), (98 : Int32), (99 : Int32), (100 : Int32), (101 : Int32), (102 : Int32)]))) = (p0 &&& (15 : Int32)) then (1 : Int32) else (0 : Int32)) else (0 : Int32))
def v0_52 (p1 : Int32) : Int32 := ((p1 &&& (65535 : Int32)).toUInt32.toUInt16.toUInt32.toInt32)
def m0_120_l8 (p1 : Int32) : Int32 := (if (f6 (v0_52 p1)) = (-1 : Int32) then (1 : Int32) else (if (f6 (v0_52 p1)) < (0 : Int32) then (0 : Int32) else (if (15 : Int32) < (f6 (v0_52 p1)) then (0 : Int32) else (if (f1 (f6 (v0_52 p1)) (own_tab [(48 : Int32), (49 : Int32), (50 : Int32), (51 : Int32), (52 : Int32), (53 : Int32), (54 : Int32), (55 : Int32), (56 : Int32), (57 : Int32), (65 : Int32), (66 : Int32), (67 : Int32), (68 : Int32), (69 : Int32), (70 : Int32)])) = (v0_52 p1) then (1 : Int32) else (if (f1 (f6 (v0_52 p1)) (own_tab [(48 : Int32), (49 : Int32), (50 : Int32), (51 : Int32), (52 : Int32), (53 : Int32), (54 : Int32), (55 : Int32), (56 : Int32), (57 : Int32), (97 : Int32), (98 : Int32), (99 : Int32), (100 : Int32), (101 : Int32), (102 : Int32)])) = (v0_52 p1) then (1 : Int32) else (0 : Int32))))))
def f0 (p0 : Int32) (p1 : Int32) : Int32 := (if (m0_45_s0 p0) = (0 : Int32) then (0 : Int32) else (if (m0_120_l8 p1) = (0 : Int32) then (0 : Int32) else (1 : Int32)))
def Q0 (Z : State) (p0 : Int32) (p1 : Int32) (wC : Int32) (wF : Value) (h0 : Heap) (n0 : Nat) (v : Option Value) (h : Heap) (L : List Loc) : Prop := v = some (.int (f0 p0 p1)) ∧ Fr n0 L
set_option maxRecDepth 65536 in
set_option maxHeartbeats 40000000 in
theorem rm0 (l : Launch) (Z : State) (a0 : Array Value) (hw : ∀ d ∈ tables_1, d.before a0 Z = true) (ws : List Jvm.Cond) (p0 : Int32) (p1 : Int32) (wC : Int32) (wF : Value) (h0 : Heap) (n0 : Nat) (Z0 : n0 ≤ h0.size) (hn0 : n0 = h0.size) (hkz : ∀ (b : Addr) (cl : Cell), Z.heap[b]? = some cl → h0[b]? = some cl) (hcw : Jvm.Lit.compactW.before a0 Z = true) (S_C : Sta Z h0 "java/lang/String" "COMPACT_STRINGS" "Z" (.int wC)) (hC : ¬ wC = (0 : Int32)) (S_F : Sta Z h0 "jdk/internal/util/Preconditions" "SIOOBE_FORMATTER" "Ljava/util/function/BiFunction;" wF) (hF : wF.isRef = true) (hc_7 : Jvm.Lit.constHeld Z "com/example/keepout/keepout/match/PercentEncodingHexValuePinLaw" 7) (hc_9 : Jvm.Lit.constHeld Z "com/example/keepout/keepout/match/PercentEncodingHexValuePinLaw" 9) :
    MetFree l x (head1 (Jvm.Cond.code x code maxLocals ret :: ws) room_1) (fun a U => a = #[(.int p0), (.int p1)] ∧ Z.Warmed39 U.vm ∧ U.heap = h0 ∧ U.vm.interned = Z.vm.interned) (fun _ _ _ _ _ => True) (fun _ U o U' => ∃ v L, o = .returned v ∧ Q0 Z p0 p1 wC wF h0 n0 v U'.heap L ∧ ReturnedEndW U o U' L room_1.cells room_1.slots) := by
  refine MetFree.of_bodySF (plainFor_of_name pn_4) hisR ?_
  intro p e s m args below meth c s₁ Bd hml0 hP hK
  obtain ⟨rfl, hZ, hh, hI0⟩ := hP
  have hx := Bd.exec
  have hby := Bd.bytes
  have hml : c.maxLocals = 9 := hml0
  have hown : s.vm.findClass "com/example/keepout/keepout/match/PercentEncodingHexValuePinLaw" = some m.cls := findClass_of_methodNamed Bd.named
  have hnm := (name_of_methodNamed Bd.named Bd.method).1
  have X0 : Stand p l e room_1 s m #[(.int p0), (.int p1)] below meth c s₁ [] 0 0 := Stand.of_body Bd
  have e0 : s₁.heap = h0 := by rw [← hh, Bd.state]; rfl
  have N0 := Fr.nil n0
  have X0' : Stand p l e room_1 (s.setVm s.vm) m #[(.int p0), (.int p1)] below meth c s₁ [] 0 0 := X0
  have hS0 : s.Since s.vm 0 := State.WarmedH.since (State.WarmedH.refl s) 0
  have I0 : IB Z s.vm [] := ⟨#[], by rw [hI0]; simp, fun q hq => by simp at hq⟩
  have hn1 : n0 = s.heap.size := by rw [hh, hn0]
  have hkp : ∀ (b : Addr) (cl : Cell), Z.heap[b]? = some cl → s.heap[b]? = some cl := by rw [hh]; exact hkz
  have wS := own_wS hw
  have pre0 : own_Go p e below (s₁.setTop (entryFrame m #[(.int p0), (.int p1)] maxLocals)) (s₁.setTop (mkF m 0 #[.val (.int p0), .val (.int p1), .unset, .unset, .unset, .unset, .unset, .unset, .unset] [])) := fun t k => castTop (ef_0 m p0 p1) k
  obtain ⟨a1, T1, h1, kq1, b1, kc1, X1, e1, E1, hS1, hk1, hZ, hown, A1, Co1, Va1, Rv1, la1, lb1, I1, Li1, st1⟩ := ldcSVL (s := s) X0' hx hZ hown (hw _ (List.mem_of_getElem? (i := 0) rfl)) wS e0 hS0 ((Nat.zero_le _)) (hn1 ▸ N0) hkp I0 (by decide) hc_7 hcw (vs := ([(48 : Int32), (49 : Int32), (50 : Int32), (51 : Int32), (52 : Int32), (53 : Int32), (54 : Int32), (55 : Int32), (56 : Int32), (57 : Int32), (65 : Int32), (66 : Int32), (67 : Int32), (68 : Int32), (69 : Int32), (70 : Int32)]).map Value.int) (z := (16 : Int32)) ⟨by decide, by decide⟩ (by decide) rfl (g := (mkF m 0 #[.val (.int p0), .val (.int p1), .unset, .unset, .unset, .unset, .unset, .unset, .unset] [])) rfl (hb hby at_0) (n := 64) (by decide) (by decide) (by decide) (by decide)
  have By1 : own_By Z h1 b1 16 (own_tab [(48 : Int32), (49 : Int32), (50 : Int32), (51 : Int32), (52 : Int32), (53 : Int32), (54 : Int32), (55 : Int32), (56 : Int32), (57 : Int32), (65 : Int32), (66 : Int32), (67 : Int32), (68 : Int32), (69 : Int32), (70 : Int32)]) := own_By.ofArv Rv1 rfl
  have k2 : own_Go p e below (s₁.setTop (entryFrame m #[(.int p0), (.int p1)] maxLocals)) (T1.setTop (mkF m 2 #[.val (.int p0), .val (.int p1), .unset, .unset, .unset, .unset, .unset, .unset, .unset] [(.ref a1)])) := fun t k => pre0 t (st1 t k)
  have k3 : own_Go p e below (s₁.setTop (entryFrame m #[(.int p0), (.int p1)] maxLocals)) (T1.setTop (mkF m 3 #[.val (.int p0), .val (.int p1), .val (.ref a1), .unset, .unset, .unset, .unset, .unset, .unset] [])) := by
    intro t k
    refine k2 t ?_
    show Steps p.tables e below (T1.setTop (mkF m 2 #[.val (.int p0), .val (.int p1), .unset, .unset, .unset, .unset, .unset, .unset, .unset] [(.ref a1)])) t
    refine XS.astoreN X1.here hx rfl (hb hby at_2) rfl rfl (l' := #[.val (.int p0), .val (.int p1), .val (.ref a1), .unset, .unset, .unset, .unset, .unset, .unset]) rfl ?_
    exact k
  obtain ⟨a4, T4, h4, kq4, b4, kc4, X4, e4, E4, hS4, hk4, hZ, hown, A4, Co4, Va4, Rv4, la4, lb4, I4, Li4, st4⟩ := ldcSVL (s := (s.setVm T1.vm)) X1 hx hZ hown (hw _ (List.mem_of_getElem? (i := 8) rfl)) wS e1 (own_since_refl _ _) (Nat.zero_le _) (hn1 ▸ N0) hkp I1 (by decide) hc_9 hcw (vs := ([(48 : Int32), (49 : Int32), (50 : Int32), (51 : Int32), (52 : Int32), (53 : Int32), (54 : Int32), (55 : Int32), (56 : Int32), (57 : Int32), (97 : Int32), (98 : Int32), (99 : Int32), (100 : Int32), (101 : Int32), (102 : Int32)]).map Value.int) (z := (16 : Int32)) ⟨by decide, by decide⟩ (by decide) rfl (g := (mkF m 3 #[.val (.int p0), .val (.int p1), .val (.ref a1), .unset, .unset, .unset, .unset, .unset, .unset] [])) rfl (hb hby at_3) (n := 64) (by decide) (by decide) (by decide) (by decide)
  have Lj4_7 := Lit.stays (s := s) Li1 hS4.1
  have hS4' := own_since_up hS1 hS4 (Nat.le_trans hk1 E4.1) hk4
  have By4 : own_By Z h4 b4 16 (own_tab [(48 : Int32), (49 : Int32), (50 : Int32), (51 : Int32), (52 : Int32), (53 : Int32), (54 : Int32), (55 : Int32), (56 : Int32), (57 : Int32), (97 : Int32), (98 : Int32), (99 : Int32), (100 : Int32), (101 : Int32), (102 : Int32)]) := own_By.ofArv Rv4 rfl
  have k5 : own_Go p e below (s₁.setTop (entryFrame m #[(.int p0), (.int p1)] maxLocals)) (T4.setTop (mkF m 5 #[.val (.int p0), .val (.int p1), .val (.ref a1), .unset, .unset, .unset, .unset, .unset, .unset] [(.ref a4)])) := fun t k => k3 t (st4 t k)
  have k6 : own_Go p e below (s₁.setTop (entryFrame m #[(.int p0), (.int p1)] maxLocals)) (T4.setTop (mkF m 15 #[.val (.int p0), .val (.int p1), .val (.ref a1), .val (.ref a4), .val (.int (p0 &&& (15 : Int32))), .unset, .unset, .unset, .unset] [(.int (p0 &&& (15 : Int32))), (.ref a1)])) := by
    intro t k
    refine k5 t ?_
    show Steps p.tables e below (T4.setTop (mkF m 5 #[.val (.int p0), .val (.int p1), .val (.ref a1), .unset, .unset, .unset, .unset, .unset, .unset] [(.ref a4)])) t
    refine XS.astoreN X4.here hx rfl (hb hby at_5) rfl rfl (l' := #[.val (.int p0), .val (.int p1), .val (.ref a1), .val (.ref a4), .unset, .unset, .unset, .unset, .unset]) rfl ?_
    show Steps p.tables e below (T4.setTop (mkF m 6 #[.val (.int p0), .val (.int p1), .val (.ref a1), .val (.ref a4), .unset, .unset, .unset, .unset, .unset] [])) t
    refine XS.iloadN X4.here hx rfl (hb hby at_6) rfl ?_
    show Steps p.tables e below (T4.setTop (mkF m 7 #[.val (.int p0), .val (.int p1), .val (.ref a1), .val (.ref a4), .unset, .unset, .unset, .unset, .unset] [(.int p0)])) t
    refine XS.bipush X4.here hx rfl (hb hby at_7) ?_
    show Steps p.tables e below (T4.setTop (mkF m 9 #[.val (.int p0), .val (.int p1), .val (.ref a1), .val (.ref a4), .unset, .unset, .unset, .unset, .unset] [(.int (15 : Int32)), (.int p0)])) t
    refine XS.iand X4.here hx rfl (hb hby at_9) rfl ?_
    show Steps p.tables e below (T4.setTop (mkF m 10 #[.val (.int p0), .val (.int p1), .val (.ref a1), .val (.ref a4), .unset, .unset, .unset, .unset, .unset] [(.int (p0 &&& (15 : Int32)))])) t
    refine XS.istore X4.here hx rfl (hb hby at_10) rfl (l' := #[.val (.int p0), .val (.int p1), .val (.ref a1), .val (.ref a4), .val (.int (p0 &&& (15 : Int32))), .unset, .unset, .unset, .unset]) rfl ?_
    show Steps p.tables e below (T4.setTop (mkF m 12 #[.val (.int p0), .val (.int p1), .val (.ref a1), .val (.ref a4), .val (.int (p0 &&& (15 : Int32))), .unset, .unset, .unset, .unset] [])) t
    refine XS.aloadN X4.here hx rfl (hb hby at_12) rfl rfl ?_
    show Steps p.tables e below (T4.setTop (mkF m 13 #[.val (.int p0), .val (.int p1), .val (.ref a1), .val (.ref a4), .val (.int (p0 &&& (15 : Int32))), .unset, .unset, .unset, .unset] [(.ref a1)])) t
    refine XS.iload X4.here hx rfl (hb hby at_13) rfl ?_
    exact k
  obtain ⟨cq7, kq7, q7a, q7b, q7c⟩ := isOf hZ e4 (A1.ext E4)
  obtain ⟨_, _, ⟨T7, L7, kk7, n7⟩, -, X7, ⟨Lc7, hQ7, l7, y7, z7⟩, st7⟩ := X4.virtualBack hx (y := (⟨"java/lang/String", "charAt", "(I)C"⟩ : MethodName)) (z := (⟨"java/lang/String", "charAt", "(I)C"⟩ : MethodName)) hown (mvT hZ (hw _ (List.mem_of_getElem? (i := 9) rfl))) (mvT hZ (hw _ (List.mem_of_getElem? (i := 10) rfl))) (notFace_of_selects (args := #[]) (mvT hZ (hw _ (List.mem_of_getElem? (i := 12) rfl)))) (mvT hZ (hw _ (List.mem_of_getElem? (i := 12) rfl))) (mvT hZ (hw _ (List.mem_of_getElem? (i := 11) rfl))) (by decide) (backOf (W := 0) (rm1 l Z a0 hw [] a1 (p0 &&& (15 : Int32)) (own_tab [(48 : Int32), (49 : Int32), (50 : Int32), (51 : Int32), (52 : Int32), (53 : Int32), (54 : Int32), (55 : Int32), (56 : Int32), (57 : Int32), (65 : Int32), (66 : Int32), (67 : Int32), (68 : Int32), (69 : Int32), (70 : Int32)]) b1 wC wF h4 n0 (Nat.le_trans (Nat.le_trans Z0 E1.1) E4.1) (A1.ext E4) (Co1.ext E4) (Va1.ext E4) (By1.ext E4) ((S_C.ext E1).ext E4) hC ((S_F.ext E1).ext E4) hF (own_n15 p0).1 (own_n15 p0).2) hZ (hw _ (List.mem_of_getElem? (i := 13) rfl)) (hw _ (List.mem_of_getElem? (i := 1) rfl)) (by decide) (by decide)) q7a q7c (g := (mkF m 15 #[.val (.int p0), .val (.int p1), .val (.ref a1), .val (.ref a4), .val (.int (p0 &&& (15 : Int32))), .unset, .unset, .unset, .unset] [(.int (p0 &&& (15 : Int32))), (.ref a1)])) rfl (by rw [hml]; rfl) (Steps.refl _) (argsL := [(.int (p0 &&& (15 : Int32)))]) (rest := []) (lenOf pd_4 rfl) rfl (by show 2 * 0 + _ ≤ _; exact Nat.le_of_eq rfl) (hb hby at_15) (fun _ _ => ⟨rfl, e4, (by decide : 4 + 0 ≤ _), (by decide : 136 + 0 ≤ _)⟩)
  dsimp only [Pt.U, Pt.locs, Pt.cells, Pt.slots] at X7 l7 y7 z7 st7 hQ7
  subst l7 y7 z7
  obtain ⟨rfl, N7q, eh7⟩ := hQ7
  have N7 := Fr.app N0 N7q
  have k8 : own_Go p e below (s₁.setTop (entryFrame m #[(.int p0), (.int p1)] maxLocals)) (T7.setTop (mkF m 18 #[.val (.int p0), .val (.int p1), .val (.ref a1), .val (.ref a4), .val (.int (p0 &&& (15 : Int32))), .unset, .unset, .unset, .unset] [(.int (f1 (p0 &&& (15 : Int32)) (own_tab [(48 : Int32), (49 : Int32), (50 : Int32), (51 : Int32), (52 : Int32), (53 : Int32), (54 : Int32), (55 : Int32), (56 : Int32), (57 : Int32), (65 : Int32), (66 : Int32), (67 : Int32), (68 : Int32), (69 : Int32), (70 : Int32)])))])) := fun t k => k6 t (st7.trans k)
  obtain ⟨_, _, ⟨T9, L9, kk9, n9⟩, -, X9, ⟨Lc9, hQ9, l9, y9, z9⟩, st9⟩ := Jvm.LawKit.callS X7 hx (y := (⟨"com/example/keepout/keepout/match/PercentEncoding", "hexValue", "(C)I"⟩ : MethodName)) hown (mvT hZ (hw _ (List.mem_of_getElem? (i := 34) rfl))) (mvT hZ (hw _ (List.mem_of_getElem? (i := 35) rfl))) (mvT hZ (hw _ (List.mem_of_getElem? (i := 36) rfl))) (mvT hZ (hw _ (List.mem_of_getElem? (i := 37) rfl))) (by decide) (backOf (W := 0) (rm6 l Z a0 hw [] (f1 (p0 &&& (15 : Int32)) (own_tab [(48 : Int32), (49 : Int32), (50 : Int32), (51 : Int32), (52 : Int32), (53 : Int32), (54 : Int32), (55 : Int32), (56 : Int32), (57 : Int32), (65 : Int32), (66 : Int32), (67 : Int32), (68 : Int32), (69 : Int32), (70 : Int32)]))  h4 n0 (Nat.le_trans (Nat.le_trans Z0 E1.1) E4.1) ) hZ (hw _ (List.mem_of_getElem? (i := 37) rfl)) (hw _ (List.mem_of_getElem? (i := 36) rfl)) (by decide) (by decide)) (g := (mkF m 18 #[.val (.int p0), .val (.int p1), .val (.ref a1), .val (.ref a4), .val (.int (p0 &&& (15 : Int32))), .unset, .unset, .unset, .unset] [(.int (f1 (p0 &&& (15 : Int32)) (own_tab [(48 : Int32), (49 : Int32), (50 : Int32), (51 : Int32), (52 : Int32), (53 : Int32), (54 : Int32), (55 : Int32), (56 : Int32), (57 : Int32), (65 : Int32), (66 : Int32), (67 : Int32), (68 : Int32), (69 : Int32), (70 : Int32)])))])) rfl (by rw [hml]; rfl) (argsL := [(.int (f1 (p0 &&& (15 : Int32)) (own_tab [(48 : Int32), (49 : Int32), (50 : Int32), (51 : Int32), (52 : Int32), (53 : Int32), (54 : Int32), (55 : Int32), (56 : Int32), (57 : Int32), (65 : Int32), (66 : Int32), (67 : Int32), (68 : Int32), (69 : Int32), (70 : Int32)])))]) (rest := []) (lenOf pd_5 rfl) rfl (by show 2 * 0 + _ ≤ _; exact Nat.le_of_eq rfl) (hb hby at_18) (fun _ _ => ⟨rfl, eh7, (by decide : 4 + 0 ≤ _), (by decide : 136 + 0 ≤ _)⟩)
  dsimp only [Pt.U, Pt.locs, Pt.cells, Pt.slots] at X9 l9 y9 z9 st9 hQ9
  subst l9 y9 z9
  obtain ⟨rfl, N9q, eh9⟩ := hQ9
  have N9 := Fr.app N7 N9q
  have k10 : own_Go p e below (s₁.setTop (entryFrame m #[(.int p0), (.int p1)] maxLocals)) (T9.setTop (mkF m 21 #[.val (.int p0), .val (.int p1), .val (.ref a1), .val (.ref a4), .val (.int (p0 &&& (15 : Int32))), .unset, .unset, .unset, .unset] [(.int (f6 (f1 (p0 &&& (15 : Int32)) (own_tab [(48 : Int32), (49 : Int32), (50 : Int32), (51 : Int32), (52 : Int32), (53 : Int32), (54 : Int32), (55 : Int32), (56 : Int32), (57 : Int32), (65 : Int32), (66 : Int32), (67 : Int32), (68 : Int32), (69 : Int32), (70 : Int32)]))))])) := fun t k => k8 t (st9 t k)
  have k11 : own_Go p e below (s₁.setTop (entryFrame m #[(.int p0), (.int p1)] maxLocals)) (T9.setTop (mkF m 23 #[.val (.int p0), .val (.int p1), .val (.ref a1), .val (.ref a4), .val (.int (p0 &&& (15 : Int32))), .unset, .unset, .unset, .unset] [(.int (p0 &&& (15 : Int32))), (.int (f6 (f1 (p0 &&& (15 : Int32)) (own_tab [(48 : Int32), (49 : Int32), (50 : Int32), (51 : Int32), (52 : Int32), (53 : Int32), (54 : Int32), (55 : Int32), (56 : Int32), (57 : Int32), (65 : Int32), (66 : Int32), (67 : Int32), (68 : Int32), (69 : Int32), (70 : Int32)]))))])) := by
    intro t k
    refine k10 t ?_
    show Steps p.tables e below (T9.setTop (mkF m 21 #[.val (.int p0), .val (.int p1), .val (.ref a1), .val (.ref a4), .val (.int (p0 &&& (15 : Int32))), .unset, .unset, .unset, .unset] [(.int (f6 (f1 (p0 &&& (15 : Int32)) (own_tab [(48 : Int32), (49 : Int32), (50 : Int32), (51 : Int32), (52 : Int32), (53 : Int32), (54 : Int32), (55 : Int32), (56 : Int32), (57 : Int32), (65 : Int32), (66 : Int32), (67 : Int32), (68 : Int32), (69 : Int32), (70 : Int32)]))))])) t
    refine XS.iload X9.here hx rfl (hb hby at_21) rfl ?_
    exact k
  obtain ⟨T12, L12, X12, e12, N12, k12⟩ : ∃ (T12 : State) (L12 : List Loc), Stand p l e room_1 (s.setVm T4.vm) m #[(.int p0), (.int p1)] below meth c T12 L12 4 136 ∧ T12.heap = h4 ∧ Fr n0 L12 ∧ own_Go p e below (s₁.setTop (entryFrame m #[(.int p0), (.int p1)] maxLocals)) (T12.setTop (mkF m 45 #[.val (.int p0), .val (.int p1), .val (.ref a1), .val (.ref a4), .val (.int (p0 &&& (15 : Int32))), .unset, .unset, .unset, .unset] [(.int (m0_45_s0 p0))])) := by
    by_cases hc23_13 : (f6 (f1 (p0 &&& (15 : Int32)) (own_tab [(48 : Int32), (49 : Int32), (50 : Int32), (51 : Int32), (52 : Int32), (53 : Int32), (54 : Int32), (55 : Int32), (56 : Int32), (57 : Int32), (65 : Int32), (66 : Int32), (67 : Int32), (68 : Int32), (69 : Int32), (70 : Int32)]))) = (p0 &&& (15 : Int32))
    · have k14 : own_Go p e below (s₁.setTop (entryFrame m #[(.int p0), (.int p1)] maxLocals)) (T9.setTop (mkF m 29 #[.val (.int p0), .val (.int p1), .val (.ref a1), .val (.ref a4), .val (.int (p0 &&& (15 : Int32))), .unset, .unset, .unset, .unset] [(.int (p0 &&& (15 : Int32))), (.ref a4)])) := by
        intro t k
        refine k11 t ?_
        show Steps p.tables e below (T9.setTop (mkF m 23 #[.val (.int p0), .val (.int p1), .val (.ref a1), .val (.ref a4), .val (.int (p0 &&& (15 : Int32))), .unset, .unset, .unset, .unset] [(.int (p0 &&& (15 : Int32))), (.int (f6 (f1 (p0 &&& (15 : Int32)) (own_tab [(48 : Int32), (49 : Int32), (50 : Int32), (51 : Int32), (52 : Int32), (53 : Int32), (54 : Int32), (55 : Int32), (56 : Int32), (57 : Int32), (65 : Int32), (66 : Int32), (67 : Int32), (68 : Int32), (69 : Int32), (70 : Int32)]))))])) t
        refine XS.icmpNo X9.here hx rfl (hb hby at_23) rfl (teq hc23_13).2 ?_
        show Steps p.tables e below (T9.setTop (mkF m 26 #[.val (.int p0), .val (.int p1), .val (.ref a1), .val (.ref a4), .val (.int (p0 &&& (15 : Int32))), .unset, .unset, .unset, .unset] [])) t
        refine XS.aloadN X9.here hx rfl (hb hby at_26) rfl rfl ?_
        show Steps p.tables e below (T9.setTop (mkF m 27 #[.val (.int p0), .val (.int p1), .val (.ref a1), .val (.ref a4), .val (.int (p0 &&& (15 : Int32))), .unset, .unset, .unset, .unset] [(.ref a4)])) t
        refine XS.iload X9.here hx rfl (hb hby at_27) rfl ?_
        exact k
      obtain ⟨cq15, kq15, q15a, q15b, q15c⟩ := isOf hZ eh9 A4
      obtain ⟨_, _, ⟨T15, L15, kk15, n15⟩, -, X15, ⟨Lc15, hQ15, l15, y15, z15⟩, st15⟩ := X9.virtualBack hx (y := (⟨"java/lang/String", "charAt", "(I)C"⟩ : MethodName)) (z := (⟨"java/lang/String", "charAt", "(I)C"⟩ : MethodName)) hown (mvT hZ (hw _ (List.mem_of_getElem? (i := 9) rfl))) (mvT hZ (hw _ (List.mem_of_getElem? (i := 10) rfl))) (notFace_of_selects (args := #[]) (mvT hZ (hw _ (List.mem_of_getElem? (i := 12) rfl)))) (mvT hZ (hw _ (List.mem_of_getElem? (i := 12) rfl))) (mvT hZ (hw _ (List.mem_of_getElem? (i := 11) rfl))) (by decide) (backOf (W := 0) (rm1 l Z a0 hw [] a4 (p0 &&& (15 : Int32)) (own_tab [(48 : Int32), (49 : Int32), (50 : Int32), (51 : Int32), (52 : Int32), (53 : Int32), (54 : Int32), (55 : Int32), (56 : Int32), (57 : Int32), (97 : Int32), (98 : Int32), (99 : Int32), (100 : Int32), (101 : Int32), (102 : Int32)]) b4 wC wF h4 n0 (Nat.le_trans (Nat.le_trans Z0 E1.1) E4.1) A4 Co4 Va4 By4 ((S_C.ext E1).ext E4) hC ((S_F.ext E1).ext E4) hF (own_n15 p0).1 (own_n15 p0).2) hZ (hw _ (List.mem_of_getElem? (i := 13) rfl)) (hw _ (List.mem_of_getElem? (i := 1) rfl)) (by decide) (by decide)) q15a q15c (g := (mkF m 29 #[.val (.int p0), .val (.int p1), .val (.ref a1), .val (.ref a4), .val (.int (p0 &&& (15 : Int32))), .unset, .unset, .unset, .unset] [(.int (p0 &&& (15 : Int32))), (.ref a4)])) rfl (by rw [hml]; rfl) (Steps.refl _) (argsL := [(.int (p0 &&& (15 : Int32)))]) (rest := []) (lenOf pd_4 rfl) rfl (by show 2 * 0 + _ ≤ _; exact Nat.le_of_eq rfl) (hb hby at_29) (fun _ _ => ⟨rfl, eh9, (by decide : 4 + 0 ≤ _), (by decide : 136 + 0 ≤ _)⟩)
      dsimp only [Pt.U, Pt.locs, Pt.cells, Pt.slots] at X15 l15 y15 z15 st15 hQ15
      subst l15 y15 z15
      obtain ⟨rfl, N15q, eh15⟩ := hQ15
      have N15 := Fr.app N9 N15q
      have k16 : own_Go p e below (s₁.setTop (entryFrame m #[(.int p0), (.int p1)] maxLocals)) (T15.setTop (mkF m 32 #[.val (.int p0), .val (.int p1), .val (.ref a1), .val (.ref a4), .val (.int (p0 &&& (15 : Int32))), .unset, .unset, .unset, .unset] [(.int (f1 (p0 &&& (15 : Int32)) (own_tab [(48 : Int32), (49 : Int32), (50 : Int32), (51 : Int32), (52 : Int32), (53 : Int32), (54 : Int32), (55 : Int32), (56 : Int32), (57 : Int32), (97 : Int32), (98 : Int32), (99 : Int32), (100 : Int32), (101 : Int32), (102 : Int32)])))])) := fun t k => k14 t (st15.trans k)
      obtain ⟨_, _, ⟨T17, L17, kk17, n17⟩, -, X17, ⟨Lc17, hQ17, l17, y17, z17⟩, st17⟩ := Jvm.LawKit.callS X15 hx (y := (⟨"com/example/keepout/keepout/match/PercentEncoding", "hexValue", "(C)I"⟩ : MethodName)) hown (mvT hZ (hw _ (List.mem_of_getElem? (i := 34) rfl))) (mvT hZ (hw _ (List.mem_of_getElem? (i := 35) rfl))) (mvT hZ (hw _ (List.mem_of_getElem? (i := 36) rfl))) (mvT hZ (hw _ (List.mem_of_getElem? (i := 37) rfl))) (by decide) (backOf (W := 0) (rm6 l Z a0 hw [] (f1 (p0 &&& (15 : Int32)) (own_tab [(48 : Int32), (49 : Int32), (50 : Int32), (51 : Int32), (52 : Int32), (53 : Int32), (54 : Int32), (55 : Int32), (56 : Int32), (57 : Int32), (97 : Int32), (98 : Int32), (99 : Int32), (100 : Int32), (101 : Int32), (102 : Int32)]))  h4 n0 (Nat.le_trans (Nat.le_trans Z0 E1.1) E4.1) ) hZ (hw _ (List.mem_of_getElem? (i := 37) rfl)) (hw _ (List.mem_of_getElem? (i := 36) rfl)) (by decide) (by decide)) (g := (mkF m 32 #[.val (.int p0), .val (.int p1), .val (.ref a1), .val (.ref a4), .val (.int (p0 &&& (15 : Int32))), .unset, .unset, .unset, .unset] [(.int (f1 (p0 &&& (15 : Int32)) (own_tab [(48 : Int32), (49 : Int32), (50 : Int32), (51 : Int32), (52 : Int32), (53 : Int32), (54 : Int32), (55 : Int32), (56 : Int32), (57 : Int32), (97 : Int32), (98 : Int32), (99 : Int32), (100 : Int32), (101 : Int32), (102 : Int32)])))])) rfl (by rw [hml]; rfl) (argsL := [(.int (f1 (p0 &&& (15 : Int32)) (own_tab [(48 : Int32), (49 : Int32), (50 : Int32), (51 : Int32), (52 : Int32), (53 : Int32), (54 : Int32), (55 : Int32), (56 : Int32), (57 : Int32), (97 : Int32), (98 : Int32), (99 : Int32), (100 : Int32), (101 : Int32), (102 : Int32)])))]) (rest := []) (lenOf pd_5 rfl) rfl (by show 2 * 0 + _ ≤ _; exact Nat.le_of_eq rfl) (hb hby at_32) (fun _ _ => ⟨rfl, eh15, (by decide : 4 + 0 ≤ _), (by decide : 136 + 0 ≤ _)⟩)
      dsimp only [Pt.U, Pt.locs, Pt.cells, Pt.slots] at X17 l17 y17 z17 st17 hQ17
      subst l17 y17 z17
      obtain ⟨rfl, N17q, eh17⟩ := hQ17
      have N17 := Fr.app N15 N17q
      have k18 : own_Go p e below (s₁.setTop (entryFrame m #[(.int p0), (.int p1)] maxLocals)) (T17.setTop (mkF m 35 #[.val (.int p0), .val (.int p1), .val (.ref a1), .val (.ref a4), .val (.int (p0 &&& (15 : Int32))), .unset, .unset, .unset, .unset] [(.int (f6 (f1 (p0 &&& (15 : Int32)) (own_tab [(48 : Int32), (49 : Int32), (50 : Int32), (51 : Int32), (52 : Int32), (53 : Int32), (54 : Int32), (55 : Int32), (56 : Int32), (57 : Int32), (97 : Int32), (98 : Int32), (99 : Int32), (100 : Int32), (101 : Int32), (102 : Int32)]))))])) := fun t k => k16 t (st17 t k)
      have k19 : own_Go p e below (s₁.setTop (entryFrame m #[(.int p0), (.int p1)] maxLocals)) (T17.setTop (mkF m 37 #[.val (.int p0), .val (.int p1), .val (.ref a1), .val (.ref a4), .val (.int (p0 &&& (15 : Int32))), .unset, .unset, .unset, .unset] [(.int (p0 &&& (15 : Int32))), (.int (f6 (f1 (p0 &&& (15 : Int32)) (own_tab [(48 : Int32), (49 : Int32), (50 : Int32), (51 : Int32), (52 : Int32), (53 : Int32), (54 : Int32), (55 : Int32), (56 : Int32), (57 : Int32), (97 : Int32), (98 : Int32), (99 : Int32), (100 : Int32), (101 : Int32), (102 : Int32)]))))])) := by
        intro t k
        refine k18 t ?_
        show Steps p.tables e below (T17.setTop (mkF m 35 #[.val (.int p0), .val (.int p1), .val (.ref a1), .val (.ref a4), .val (.int (p0 &&& (15 : Int32))), .unset, .unset, .unset, .unset] [(.int (f6 (f1 (p0 &&& (15 : Int32)) (own_tab [(48 : Int32), (49 : Int32), (50 : Int32), (51 : Int32), (52 : Int32), (53 : Int32), (54 : Int32), (55 : Int32), (56 : Int32), (57 : Int32), (97 : Int32), (98 : Int32), (99 : Int32), (100 : Int32), (101 : Int32), (102 : Int32)]))))])) t
        refine XS.iload X17.here hx rfl (hb hby at_35) rfl ?_
        exact k
      by_cases hc37_20 : (f6 (f1 (p0 &&& (15 : Int32)) (own_tab [(48 : Int32), (49 : Int32), (50 : Int32), (51 : Int32), (52 : Int32), (53 : Int32), (54 : Int32), (55 : Int32), (56 : Int32), (57 : Int32), (97 : Int32), (98 : Int32), (99 : Int32), (100 : Int32), (101 : Int32), (102 : Int32)]))) = (p0 &&& (15 : Int32))
      · have k21 : own_Go p e below (s₁.setTop (entryFrame m #[(.int p0), (.int p1)] maxLocals)) (T17.setTop (mkF m 45 #[.val (.int p0), .val (.int p1), .val (.ref a1), .val (.ref a4), .val (.int (p0 &&& (15 : Int32))), .unset, .unset, .unset, .unset] [(.int (1 : Int32))])) := by
          intro t k
          refine k19 t ?_
          show Steps p.tables e below (T17.setTop (mkF m 37 #[.val (.int p0), .val (.int p1), .val (.ref a1), .val (.ref a4), .val (.int (p0 &&& (15 : Int32))), .unset, .unset, .unset, .unset] [(.int (p0 &&& (15 : Int32))), (.int (f6 (f1 (p0 &&& (15 : Int32)) (own_tab [(48 : Int32), (49 : Int32), (50 : Int32), (51 : Int32), (52 : Int32), (53 : Int32), (54 : Int32), (55 : Int32), (56 : Int32), (57 : Int32), (97 : Int32), (98 : Int32), (99 : Int32), (100 : Int32), (101 : Int32), (102 : Int32)]))))])) t
          refine XS.icmpNo X17.here hx rfl (hb hby at_37) rfl (teq hc37_20).2 ?_
          show Steps p.tables e below (T17.setTop (mkF m 40 #[.val (.int p0), .val (.int p1), .val (.ref a1), .val (.ref a4), .val (.int (p0 &&& (15 : Int32))), .unset, .unset, .unset, .unset] [])) t
          refine XS.iconst X17.here hx rfl (hb hby at_40) ?_
          show Steps p.tables e below (T17.setTop (mkF m 41 #[.val (.int p0), .val (.int p1), .val (.ref a1), .val (.ref a4), .val (.int (p0 &&& (15 : Int32))), .unset, .unset, .unset, .unset] [(.int (1 : Int32))])) t
          refine XS.goto X17.here hx rfl (pc0 := 41) (pc' := 45) rfl (hb hby at_41) (by decide) (by decide) ?_
          exact k
        exact ⟨_, _, X17, eh17, N17, (by rw [show (m0_45_s0 p0) = (1 : Int32) from (by unfold m0_45_s0; rw [if_pos hc23_13, if_pos hc37_20])]; exact k21)⟩
      · have k22 : own_Go p e below (s₁.setTop (entryFrame m #[(.int p0), (.int p1)] maxLocals)) (T17.setTop (mkF m 45 #[.val (.int p0), .val (.int p1), .val (.ref a1), .val (.ref a4), .val (.int (p0 &&& (15 : Int32))), .unset, .unset, .unset, .unset] [(.int (0 : Int32))])) := by
          intro t k
          refine k19 t ?_
          show Steps p.tables e below (T17.setTop (mkF m 37 #[.val (.int p0), .val (.int p1), .val (.ref a1), .val (.ref a4), .val (.int (p0 &&& (15 : Int32))), .unset, .unset, .unset, .unset] [(.int (p0 &&& (15 : Int32))), (.int (f6 (f1 (p0 &&& (15 : Int32)) (own_tab [(48 : Int32), (49 : Int32), (50 : Int32), (51 : Int32), (52 : Int32), (53 : Int32), (54 : Int32), (55 : Int32), (56 : Int32), (57 : Int32), (97 : Int32), (98 : Int32), (99 : Int32), (100 : Int32), (101 : Int32), (102 : Int32)]))))])) t
          refine XS.icmpYes X17.here hx rfl (pc0 := 37) (pc' := 44) rfl (hb hby at_37) rfl (feq hc37_20).2 (by decide) (by decide) ?_
          show Steps p.tables e below (T17.setTop (mkF m 44 #[.val (.int p0), .val (.int p1), .val (.ref a1), .val (.ref a4), .val (.int (p0 &&& (15 : Int32))), .unset, .unset, .unset, .unset] [])) t
          refine XS.iconst X17.here hx rfl (hb hby at_44) ?_
          exact k
        exact ⟨_, _, X17, eh17, N17, (by rw [show (m0_45_s0 p0) = (0 : Int32) from (by unfold m0_45_s0; rw [if_pos hc23_13, if_neg hc37_20])]; exact k22)⟩
    · have k23 : own_Go p e below (s₁.setTop (entryFrame m #[(.int p0), (.int p1)] maxLocals)) (T9.setTop (mkF m 45 #[.val (.int p0), .val (.int p1), .val (.ref a1), .val (.ref a4), .val (.int (p0 &&& (15 : Int32))), .unset, .unset, .unset, .unset] [(.int (0 : Int32))])) := by
        intro t k
        refine k11 t ?_
        show Steps p.tables e below (T9.setTop (mkF m 23 #[.val (.int p0), .val (.int p1), .val (.ref a1), .val (.ref a4), .val (.int (p0 &&& (15 : Int32))), .unset, .unset, .unset, .unset] [(.int (p0 &&& (15 : Int32))), (.int (f6 (f1 (p0 &&& (15 : Int32)) (own_tab [(48 : Int32), (49 : Int32), (50 : Int32), (51 : Int32), (52 : Int32), (53 : Int32), (54 : Int32), (55 : Int32), (56 : Int32), (57 : Int32), (65 : Int32), (66 : Int32), (67 : Int32), (68 : Int32), (69 : Int32), (70 : Int32)]))))])) t
        refine XS.icmpYes X9.here hx rfl (pc0 := 23) (pc' := 44) rfl (hb hby at_23) rfl (feq hc23_13).2 (by decide) (by decide) ?_
        show Steps p.tables e below (T9.setTop (mkF m 44 #[.val (.int p0), .val (.int p1), .val (.ref a1), .val (.ref a4), .val (.int (p0 &&& (15 : Int32))), .unset, .unset, .unset, .unset] [])) t
        refine XS.iconst X9.here hx rfl (hb hby at_44) ?_
        exact k
      exact ⟨_, _, X9, eh9, N9, (by rw [show (m0_45_s0 p0) = (0 : Int32) from (by unfold m0_45_s0; rw [if_neg hc23_13])]; exact k23)⟩
  have k24 : own_Go p e below (s₁.setTop (entryFrame m #[(.int p0), (.int p1)] maxLocals)) (T12.setTop (mkF m 56 #[.val (.int p0), .val (.int p1), .val (.ref a1), .val (.ref a4), .val (.int (p0 &&& (15 : Int32))), .val (.int (m0_45_s0 p0)), .val (.int (v0_52 p1)), .unset, .unset] [(.int (v0_52 p1))])) := by
    intro t k
    refine k12 t ?_
    show Steps p.tables e below (T12.setTop (mkF m 45 #[.val (.int p0), .val (.int p1), .val (.ref a1), .val (.ref a4), .val (.int (p0 &&& (15 : Int32))), .unset, .unset, .unset, .unset] [(.int (m0_45_s0 p0))])) t
    refine XS.istore X12.here hx rfl (hb hby at_45) rfl (l' := #[.val (.int p0), .val (.int p1), .val (.ref a1), .val (.ref a4), .val (.int (p0 &&& (15 : Int32))), .val (.int (m0_45_s0 p0)), .unset, .unset, .unset]) rfl ?_
    show Steps p.tables e below (T12.setTop (mkF m 47 #[.val (.int p0), .val (.int p1), .val (.ref a1), .val (.ref a4), .val (.int (p0 &&& (15 : Int32))), .val (.int (m0_45_s0 p0)), .unset, .unset, .unset] [])) t
    refine XS.iloadN X12.here hx rfl (hb hby at_47) rfl ?_
    show Steps p.tables e below (T12.setTop (mkF m 48 #[.val (.int p0), .val (.int p1), .val (.ref a1), .val (.ref a4), .val (.int (p0 &&& (15 : Int32))), .val (.int (m0_45_s0 p0)), .unset, .unset, .unset] [(.int p1)])) t
    refine X12.ldcInt hx hown (mvT hZ (hw _ (List.mem_of_getElem? (i := 38) rfl))) (g := (mkF m 48 #[.val (.int p0), .val (.int p1), .val (.ref a1), .val (.ref a4), .val (.int (p0 &&& (15 : Int32))), .val (.int (m0_45_s0 p0)), .unset, .unset, .unset] [(.int p1)])) rfl (hb hby at_48) _ ?_
    show Steps p.tables e below (T12.setTop (mkF m 50 #[.val (.int p0), .val (.int p1), .val (.ref a1), .val (.ref a4), .val (.int (p0 &&& (15 : Int32))), .val (.int (m0_45_s0 p0)), .unset, .unset, .unset] [(.int (65535 : Int32)), (.int p1)])) t
    refine XS.iand X12.here hx rfl (hb hby at_50) rfl ?_
    show Steps p.tables e below (T12.setTop (mkF m 51 #[.val (.int p0), .val (.int p1), .val (.ref a1), .val (.ref a4), .val (.int (p0 &&& (15 : Int32))), .val (.int (m0_45_s0 p0)), .unset, .unset, .unset] [(.int (p1 &&& (65535 : Int32)))])) t
    refine XS.i2c X12.here hx rfl (hb hby at_51) rfl ?_
    show Steps p.tables e below (T12.setTop (mkF m 52 #[.val (.int p0), .val (.int p1), .val (.ref a1), .val (.ref a4), .val (.int (p0 &&& (15 : Int32))), .val (.int (m0_45_s0 p0)), .unset, .unset, .unset] [(.int ((p1 &&& (65535 : Int32)).toUInt32.toUInt16.toUInt32.toInt32))])) t
    refine XS.istore X12.here hx rfl (hb hby at_52) rfl (l' := #[.val (.int p0), .val (.int p1), .val (.ref a1), .val (.ref a4), .val (.int (p0 &&& (15 : Int32))), .val (.int (m0_45_s0 p0)), .val (.int (v0_52 p1)), .unset, .unset]) rfl ?_
    show Steps p.tables e below (T12.setTop (mkF m 54 #[.val (.int p0), .val (.int p1), .val (.ref a1), .val (.ref a4), .val (.int (p0 &&& (15 : Int32))), .val (.int (m0_45_s0 p0)), .val (.int (v0_52 p1)), .unset, .unset] [])) t
    refine XS.iload X12.here hx rfl (hb hby at_54) rfl ?_
    exact k
  obtain ⟨_, _, ⟨T25, L25, kk25, n25⟩, -, X25, ⟨Lc25, hQ25, l25, y25, z25⟩, st25⟩ := Jvm.LawKit.callS X12 hx (y := (⟨"com/example/keepout/keepout/match/PercentEncoding", "hexValue", "(C)I"⟩ : MethodName)) hown (mvT hZ (hw _ (List.mem_of_getElem? (i := 34) rfl))) (mvT hZ (hw _ (List.mem_of_getElem? (i := 35) rfl))) (mvT hZ (hw _ (List.mem_of_getElem? (i := 36) rfl))) (mvT hZ (hw _ (List.mem_of_getElem? (i := 37) rfl))) (by decide) (backOf (W := 0) (rm6 l Z a0 hw [] (v0_52 p1)  h4 n0 (Nat.le_trans (Nat.le_trans Z0 E1.1) E4.1) ) hZ (hw _ (List.mem_of_getElem? (i := 37) rfl)) (hw _ (List.mem_of_getElem? (i := 36) rfl)) (by decide) (by decide)) (g := (mkF m 56 #[.val (.int p0), .val (.int p1), .val (.ref a1), .val (.ref a4), .val (.int (p0 &&& (15 : Int32))), .val (.int (m0_45_s0 p0)), .val (.int (v0_52 p1)), .unset, .unset] [(.int (v0_52 p1))])) rfl (by rw [hml]; rfl) (argsL := [(.int (v0_52 p1))]) (rest := []) (lenOf pd_5 rfl) rfl (by show 2 * 0 + _ ≤ _; exact Nat.le_of_eq rfl) (hb hby at_56) (fun _ _ => ⟨rfl, e12, (by decide : 4 + 0 ≤ _), (by decide : 136 + 0 ≤ _)⟩)
  dsimp only [Pt.U, Pt.locs, Pt.cells, Pt.slots] at X25 l25 y25 z25 st25 hQ25
  subst l25 y25 z25
  obtain ⟨rfl, N25q, eh25⟩ := hQ25
  have N25 := Fr.app N12 N25q
  have k26 : own_Go p e below (s₁.setTop (entryFrame m #[(.int p0), (.int p1)] maxLocals)) (T25.setTop (mkF m 59 #[.val (.int p0), .val (.int p1), .val (.ref a1), .val (.ref a4), .val (.int (p0 &&& (15 : Int32))), .val (.int (m0_45_s0 p0)), .val (.int (v0_52 p1)), .unset, .unset] [(.int (f6 (v0_52 p1)))])) := fun t k => k24 t (st25 t k)
  have k27 : own_Go p e below (s₁.setTop (entryFrame m #[(.int p0), (.int p1)] maxLocals)) (T25.setTop (mkF m 64 #[.val (.int p0), .val (.int p1), .val (.ref a1), .val (.ref a4), .val (.int (p0 &&& (15 : Int32))), .val (.int (m0_45_s0 p0)), .val (.int (v0_52 p1)), .val (.int (f6 (v0_52 p1))), .unset] [(.int (-1 : Int32)), (.int (f6 (v0_52 p1)))])) := by
    intro t k
    refine k26 t ?_
    show Steps p.tables e below (T25.setTop (mkF m 59 #[.val (.int p0), .val (.int p1), .val (.ref a1), .val (.ref a4), .val (.int (p0 &&& (15 : Int32))), .val (.int (m0_45_s0 p0)), .val (.int (v0_52 p1)), .unset, .unset] [(.int (f6 (v0_52 p1)))])) t
    refine XS.istore X25.here hx rfl (hb hby at_59) rfl (l' := #[.val (.int p0), .val (.int p1), .val (.ref a1), .val (.ref a4), .val (.int (p0 &&& (15 : Int32))), .val (.int (m0_45_s0 p0)), .val (.int (v0_52 p1)), .val (.int (f6 (v0_52 p1))), .unset]) rfl ?_
    show Steps p.tables e below (T25.setTop (mkF m 61 #[.val (.int p0), .val (.int p1), .val (.ref a1), .val (.ref a4), .val (.int (p0 &&& (15 : Int32))), .val (.int (m0_45_s0 p0)), .val (.int (v0_52 p1)), .val (.int (f6 (v0_52 p1))), .unset] [])) t
    refine XS.iload X25.here hx rfl (hb hby at_61) rfl ?_
    show Steps p.tables e below (T25.setTop (mkF m 63 #[.val (.int p0), .val (.int p1), .val (.ref a1), .val (.ref a4), .val (.int (p0 &&& (15 : Int32))), .val (.int (m0_45_s0 p0)), .val (.int (v0_52 p1)), .val (.int (f6 (v0_52 p1))), .unset] [(.int (f6 (v0_52 p1)))])) t
    refine XS.iconst X25.here hx rfl (hb hby at_63) ?_
    exact k
  obtain ⟨T28, L28, X28, e28, N28, k28⟩ : ∃ (T28 : State) (L28 : List Loc), Stand p l e room_1 (s.setVm T4.vm) m #[(.int p0), (.int p1)] below meth c T28 L28 4 136 ∧ T28.heap = h4 ∧ Fr n0 L28 ∧ own_Go p e below (s₁.setTop (entryFrame m #[(.int p0), (.int p1)] maxLocals)) (T28.setTop (mkF m 120 #[.val (.int p0), .val (.int p1), .val (.ref a1), .val (.ref a4), .val (.int (p0 &&& (15 : Int32))), .val (.int (m0_45_s0 p0)), .val (.int (v0_52 p1)), .val (.int (f6 (v0_52 p1))), .val (.int (m0_120_l8 p1))] [])) := by
    by_cases hc64_29 : (f6 (v0_52 p1)) = (-1 : Int32)
    · have k30 : own_Go p e below (s₁.setTop (entryFrame m #[(.int p0), (.int p1)] maxLocals)) (T25.setTop (mkF m 120 #[.val (.int p0), .val (.int p1), .val (.ref a1), .val (.ref a4), .val (.int (p0 &&& (15 : Int32))), .val (.int (m0_45_s0 p0)), .val (.int (v0_52 p1)), .val (.int (f6 (v0_52 p1))), .val (.int (1 : Int32))] [])) := by
        intro t k
        refine k27 t ?_
        show Steps p.tables e below (T25.setTop (mkF m 64 #[.val (.int p0), .val (.int p1), .val (.ref a1), .val (.ref a4), .val (.int (p0 &&& (15 : Int32))), .val (.int (m0_45_s0 p0)), .val (.int (v0_52 p1)), .val (.int (f6 (v0_52 p1))), .unset] [(.int (-1 : Int32)), (.int (f6 (v0_52 p1)))])) t
        refine XS.icmpNo X25.here hx rfl (hb hby at_64) rfl (teq hc64_29).2 ?_
        show Steps p.tables e below (T25.setTop (mkF m 67 #[.val (.int p0), .val (.int p1), .val (.ref a1), .val (.ref a4), .val (.int (p0 &&& (15 : Int32))), .val (.int (m0_45_s0 p0)), .val (.int (v0_52 p1)), .val (.int (f6 (v0_52 p1))), .unset] [])) t
        refine XS.iconst X25.here hx rfl (hb hby at_67) ?_
        show Steps p.tables e below (T25.setTop (mkF m 68 #[.val (.int p0), .val (.int p1), .val (.ref a1), .val (.ref a4), .val (.int (p0 &&& (15 : Int32))), .val (.int (m0_45_s0 p0)), .val (.int (v0_52 p1)), .val (.int (f6 (v0_52 p1))), .unset] [(.int (1 : Int32))])) t
        refine XS.istore X25.here hx rfl (hb hby at_68) rfl (l' := #[.val (.int p0), .val (.int p1), .val (.ref a1), .val (.ref a4), .val (.int (p0 &&& (15 : Int32))), .val (.int (m0_45_s0 p0)), .val (.int (v0_52 p1)), .val (.int (f6 (v0_52 p1))), .val (.int (1 : Int32))]) rfl ?_
        show Steps p.tables e below (T25.setTop (mkF m 70 #[.val (.int p0), .val (.int p1), .val (.ref a1), .val (.ref a4), .val (.int (p0 &&& (15 : Int32))), .val (.int (m0_45_s0 p0)), .val (.int (v0_52 p1)), .val (.int (f6 (v0_52 p1))), .val (.int (1 : Int32))] [])) t
        refine XS.goto X25.here hx rfl (pc0 := 70) (pc' := 120) rfl (hb hby at_70) (by decide) (by decide) ?_
        exact k
      exact ⟨_, _, X25, eh25, N25, (by rw [show (m0_120_l8 p1) = (1 : Int32) from (by unfold m0_120_l8; rw [if_pos hc64_29])]; exact k30)⟩
    · have k31 : own_Go p e below (s₁.setTop (entryFrame m #[(.int p0), (.int p1)] maxLocals)) (T25.setTop (mkF m 75 #[.val (.int p0), .val (.int p1), .val (.ref a1), .val (.ref a4), .val (.int (p0 &&& (15 : Int32))), .val (.int (m0_45_s0 p0)), .val (.int (v0_52 p1)), .val (.int (f6 (v0_52 p1))), .unset] [(.int (f6 (v0_52 p1)))])) := by
        intro t k
        refine k27 t ?_
        show Steps p.tables e below (T25.setTop (mkF m 64 #[.val (.int p0), .val (.int p1), .val (.ref a1), .val (.ref a4), .val (.int (p0 &&& (15 : Int32))), .val (.int (m0_45_s0 p0)), .val (.int (v0_52 p1)), .val (.int (f6 (v0_52 p1))), .unset] [(.int (-1 : Int32)), (.int (f6 (v0_52 p1)))])) t
        refine XS.icmpYes X25.here hx rfl (pc0 := 64) (pc' := 73) rfl (hb hby at_64) rfl (feq hc64_29).2 (by decide) (by decide) ?_
        show Steps p.tables e below (T25.setTop (mkF m 73 #[.val (.int p0), .val (.int p1), .val (.ref a1), .val (.ref a4), .val (.int (p0 &&& (15 : Int32))), .val (.int (m0_45_s0 p0)), .val (.int (v0_52 p1)), .val (.int (f6 (v0_52 p1))), .unset] [])) t
        refine XS.iload X25.here hx rfl (hb hby at_73) rfl ?_
        exact k
      by_cases hc75_32 : (f6 (v0_52 p1)) < (0 : Int32)
      · have k33 : own_Go p e below (s₁.setTop (entryFrame m #[(.int p0), (.int p1)] maxLocals)) (T25.setTop (mkF m 120 #[.val (.int p0), .val (.int p1), .val (.ref a1), .val (.ref a4), .val (.int (p0 &&& (15 : Int32))), .val (.int (m0_45_s0 p0)), .val (.int (v0_52 p1)), .val (.int (f6 (v0_52 p1))), .val (.int (0 : Int32))] [])) := by
          intro t k
          refine k31 t ?_
          show Steps p.tables e below (T25.setTop (mkF m 75 #[.val (.int p0), .val (.int p1), .val (.ref a1), .val (.ref a4), .val (.int (p0 &&& (15 : Int32))), .val (.int (m0_45_s0 p0)), .val (.int (v0_52 p1)), .val (.int (f6 (v0_52 p1))), .unset] [(.int (f6 (v0_52 p1)))])) t
          refine XS.ifYes X25.here hx rfl (pc0 := 75) (pc' := 117) rfl (hb hby at_75) rfl ((if0 _ _).trans (tlt hc75_32).1) (by decide) (by decide) ?_
          show Steps p.tables e below (T25.setTop (mkF m 117 #[.val (.int p0), .val (.int p1), .val (.ref a1), .val (.ref a4), .val (.int (p0 &&& (15 : Int32))), .val (.int (m0_45_s0 p0)), .val (.int (v0_52 p1)), .val (.int (f6 (v0_52 p1))), .unset] [])) t
          refine XS.iconst X25.here hx rfl (hb hby at_117) ?_
          show Steps p.tables e below (T25.setTop (mkF m 118 #[.val (.int p0), .val (.int p1), .val (.ref a1), .val (.ref a4), .val (.int (p0 &&& (15 : Int32))), .val (.int (m0_45_s0 p0)), .val (.int (v0_52 p1)), .val (.int (f6 (v0_52 p1))), .unset] [(.int (0 : Int32))])) t
          refine XS.istore X25.here hx rfl (hb hby at_118) rfl (l' := #[.val (.int p0), .val (.int p1), .val (.ref a1), .val (.ref a4), .val (.int (p0 &&& (15 : Int32))), .val (.int (m0_45_s0 p0)), .val (.int (v0_52 p1)), .val (.int (f6 (v0_52 p1))), .val (.int (0 : Int32))]) rfl ?_
          exact k
        exact ⟨_, _, X25, eh25, N25, (by rw [show (m0_120_l8 p1) = (0 : Int32) from (by unfold m0_120_l8; rw [if_neg hc64_29, if_pos hc75_32])]; exact k33)⟩
      · have k34 : own_Go p e below (s₁.setTop (entryFrame m #[(.int p0), (.int p1)] maxLocals)) (T25.setTop (mkF m 82 #[.val (.int p0), .val (.int p1), .val (.ref a1), .val (.ref a4), .val (.int (p0 &&& (15 : Int32))), .val (.int (m0_45_s0 p0)), .val (.int (v0_52 p1)), .val (.int (f6 (v0_52 p1))), .unset] [(.int (15 : Int32)), (.int (f6 (v0_52 p1)))])) := by
          intro t k
          refine k31 t ?_
          show Steps p.tables e below (T25.setTop (mkF m 75 #[.val (.int p0), .val (.int p1), .val (.ref a1), .val (.ref a4), .val (.int (p0 &&& (15 : Int32))), .val (.int (m0_45_s0 p0)), .val (.int (v0_52 p1)), .val (.int (f6 (v0_52 p1))), .unset] [(.int (f6 (v0_52 p1)))])) t
          refine XS.ifNo X25.here hx rfl (hb hby at_75) rfl ((if0 _ _).trans (flt hc75_32).1) ?_
          show Steps p.tables e below (T25.setTop (mkF m 78 #[.val (.int p0), .val (.int p1), .val (.ref a1), .val (.ref a4), .val (.int (p0 &&& (15 : Int32))), .val (.int (m0_45_s0 p0)), .val (.int (v0_52 p1)), .val (.int (f6 (v0_52 p1))), .unset] [])) t
          refine XS.iload X25.here hx rfl (hb hby at_78) rfl ?_
          show Steps p.tables e below (T25.setTop (mkF m 80 #[.val (.int p0), .val (.int p1), .val (.ref a1), .val (.ref a4), .val (.int (p0 &&& (15 : Int32))), .val (.int (m0_45_s0 p0)), .val (.int (v0_52 p1)), .val (.int (f6 (v0_52 p1))), .unset] [(.int (f6 (v0_52 p1)))])) t
          refine XS.bipush X25.here hx rfl (hb hby at_80) ?_
          exact k
        by_cases hc82_35 : (15 : Int32) < (f6 (v0_52 p1))
        · have k36 : own_Go p e below (s₁.setTop (entryFrame m #[(.int p0), (.int p1)] maxLocals)) (T25.setTop (mkF m 120 #[.val (.int p0), .val (.int p1), .val (.ref a1), .val (.ref a4), .val (.int (p0 &&& (15 : Int32))), .val (.int (m0_45_s0 p0)), .val (.int (v0_52 p1)), .val (.int (f6 (v0_52 p1))), .val (.int (0 : Int32))] [])) := by
            intro t k
            refine k34 t ?_
            show Steps p.tables e below (T25.setTop (mkF m 82 #[.val (.int p0), .val (.int p1), .val (.ref a1), .val (.ref a4), .val (.int (p0 &&& (15 : Int32))), .val (.int (m0_45_s0 p0)), .val (.int (v0_52 p1)), .val (.int (f6 (v0_52 p1))), .unset] [(.int (15 : Int32)), (.int (f6 (v0_52 p1)))])) t
            refine XS.icmpYes X25.here hx rfl (pc0 := 82) (pc' := 117) rfl (hb hby at_82) rfl (tlt hc82_35).2.2.1 (by decide) (by decide) ?_
            show Steps p.tables e below (T25.setTop (mkF m 117 #[.val (.int p0), .val (.int p1), .val (.ref a1), .val (.ref a4), .val (.int (p0 &&& (15 : Int32))), .val (.int (m0_45_s0 p0)), .val (.int (v0_52 p1)), .val (.int (f6 (v0_52 p1))), .unset] [])) t
            refine XS.iconst X25.here hx rfl (hb hby at_117) ?_
            show Steps p.tables e below (T25.setTop (mkF m 118 #[.val (.int p0), .val (.int p1), .val (.ref a1), .val (.ref a4), .val (.int (p0 &&& (15 : Int32))), .val (.int (m0_45_s0 p0)), .val (.int (v0_52 p1)), .val (.int (f6 (v0_52 p1))), .unset] [(.int (0 : Int32))])) t
            refine XS.istore X25.here hx rfl (hb hby at_118) rfl (l' := #[.val (.int p0), .val (.int p1), .val (.ref a1), .val (.ref a4), .val (.int (p0 &&& (15 : Int32))), .val (.int (m0_45_s0 p0)), .val (.int (v0_52 p1)), .val (.int (f6 (v0_52 p1))), .val (.int (0 : Int32))]) rfl ?_
            exact k
          exact ⟨_, _, X25, eh25, N25, (by rw [show (m0_120_l8 p1) = (0 : Int32) from (by unfold m0_120_l8; rw [if_neg hc64_29, if_neg hc75_32, if_pos hc82_35])]; exact k36)⟩
        · have k37 : own_Go p e below (s₁.setTop (entryFrame m #[(.int p0), (.int p1)] maxLocals)) (T25.setTop (mkF m 88 #[.val (.int p0), .val (.int p1), .val (.ref a1), .val (.ref a4), .val (.int (p0 &&& (15 : Int32))), .val (.int (m0_45_s0 p0)), .val (.int (v0_52 p1)), .val (.int (f6 (v0_52 p1))), .unset] [(.int (f6 (v0_52 p1))), (.ref a1)])) := by
            intro t k
            refine k34 t ?_
            show Steps p.tables e below (T25.setTop (mkF m 82 #[.val (.int p0), .val (.int p1), .val (.ref a1), .val (.ref a4), .val (.int (p0 &&& (15 : Int32))), .val (.int (m0_45_s0 p0)), .val (.int (v0_52 p1)), .val (.int (f6 (v0_52 p1))), .unset] [(.int (15 : Int32)), (.int (f6 (v0_52 p1)))])) t
            refine XS.icmpNo X25.here hx rfl (hb hby at_82) rfl (flt hc82_35).2.2.1 ?_
            show Steps p.tables e below (T25.setTop (mkF m 85 #[.val (.int p0), .val (.int p1), .val (.ref a1), .val (.ref a4), .val (.int (p0 &&& (15 : Int32))), .val (.int (m0_45_s0 p0)), .val (.int (v0_52 p1)), .val (.int (f6 (v0_52 p1))), .unset] [])) t
            refine XS.aloadN X25.here hx rfl (hb hby at_85) rfl rfl ?_
            show Steps p.tables e below (T25.setTop (mkF m 86 #[.val (.int p0), .val (.int p1), .val (.ref a1), .val (.ref a4), .val (.int (p0 &&& (15 : Int32))), .val (.int (m0_45_s0 p0)), .val (.int (v0_52 p1)), .val (.int (f6 (v0_52 p1))), .unset] [(.ref a1)])) t
            refine XS.iload X25.here hx rfl (hb hby at_86) rfl ?_
            exact k
          obtain ⟨cq38, kq38, q38a, q38b, q38c⟩ := isOf hZ eh25 (A1.ext E4)
          obtain ⟨_, _, ⟨T38, L38, kk38, n38⟩, -, X38, ⟨Lc38, hQ38, l38, y38, z38⟩, st38⟩ := X25.virtualBack hx (y := (⟨"java/lang/String", "charAt", "(I)C"⟩ : MethodName)) (z := (⟨"java/lang/String", "charAt", "(I)C"⟩ : MethodName)) hown (mvT hZ (hw _ (List.mem_of_getElem? (i := 9) rfl))) (mvT hZ (hw _ (List.mem_of_getElem? (i := 10) rfl))) (notFace_of_selects (args := #[]) (mvT hZ (hw _ (List.mem_of_getElem? (i := 12) rfl)))) (mvT hZ (hw _ (List.mem_of_getElem? (i := 12) rfl))) (mvT hZ (hw _ (List.mem_of_getElem? (i := 11) rfl))) (by decide) (backOf (W := 0) (rm1 l Z a0 hw [] a1 (f6 (v0_52 p1)) (own_tab [(48 : Int32), (49 : Int32), (50 : Int32), (51 : Int32), (52 : Int32), (53 : Int32), (54 : Int32), (55 : Int32), (56 : Int32), (57 : Int32), (65 : Int32), (66 : Int32), (67 : Int32), (68 : Int32), (69 : Int32), (70 : Int32)]) b1 wC wF h4 n0 (Nat.le_trans (Nat.le_trans Z0 E1.1) E4.1) (A1.ext E4) (Co1.ext E4) (Va1.ext E4) (By1.ext E4) ((S_C.ext E1).ext E4) hC ((S_F.ext E1).ext E4) hF hc75_32 (own_lt16 hc82_35)) hZ (hw _ (List.mem_of_getElem? (i := 13) rfl)) (hw _ (List.mem_of_getElem? (i := 1) rfl)) (by decide) (by decide)) q38a q38c (g := (mkF m 88 #[.val (.int p0), .val (.int p1), .val (.ref a1), .val (.ref a4), .val (.int (p0 &&& (15 : Int32))), .val (.int (m0_45_s0 p0)), .val (.int (v0_52 p1)), .val (.int (f6 (v0_52 p1))), .unset] [(.int (f6 (v0_52 p1))), (.ref a1)])) rfl (by rw [hml]; rfl) (Steps.refl _) (argsL := [(.int (f6 (v0_52 p1)))]) (rest := []) (lenOf pd_4 rfl) rfl (by show 2 * 0 + _ ≤ _; exact Nat.le_of_eq rfl) (hb hby at_88) (fun _ _ => ⟨rfl, eh25, (by decide : 4 + 0 ≤ _), (by decide : 136 + 0 ≤ _)⟩)
          dsimp only [Pt.U, Pt.locs, Pt.cells, Pt.slots] at X38 l38 y38 z38 st38 hQ38
          subst l38 y38 z38
          obtain ⟨rfl, N38q, eh38⟩ := hQ38
          have N38 := Fr.app N25 N38q
          have k39 : own_Go p e below (s₁.setTop (entryFrame m #[(.int p0), (.int p1)] maxLocals)) (T38.setTop (mkF m 91 #[.val (.int p0), .val (.int p1), .val (.ref a1), .val (.ref a4), .val (.int (p0 &&& (15 : Int32))), .val (.int (m0_45_s0 p0)), .val (.int (v0_52 p1)), .val (.int (f6 (v0_52 p1))), .unset] [(.int (f1 (f6 (v0_52 p1)) (own_tab [(48 : Int32), (49 : Int32), (50 : Int32), (51 : Int32), (52 : Int32), (53 : Int32), (54 : Int32), (55 : Int32), (56 : Int32), (57 : Int32), (65 : Int32), (66 : Int32), (67 : Int32), (68 : Int32), (69 : Int32), (70 : Int32)])))])) := fun t k => k37 t (st38.trans k)
          have k40 : own_Go p e below (s₁.setTop (entryFrame m #[(.int p0), (.int p1)] maxLocals)) (T38.setTop (mkF m 93 #[.val (.int p0), .val (.int p1), .val (.ref a1), .val (.ref a4), .val (.int (p0 &&& (15 : Int32))), .val (.int (m0_45_s0 p0)), .val (.int (v0_52 p1)), .val (.int (f6 (v0_52 p1))), .unset] [(.int (v0_52 p1)), (.int (f1 (f6 (v0_52 p1)) (own_tab [(48 : Int32), (49 : Int32), (50 : Int32), (51 : Int32), (52 : Int32), (53 : Int32), (54 : Int32), (55 : Int32), (56 : Int32), (57 : Int32), (65 : Int32), (66 : Int32), (67 : Int32), (68 : Int32), (69 : Int32), (70 : Int32)])))])) := by
            intro t k
            refine k39 t ?_
            show Steps p.tables e below (T38.setTop (mkF m 91 #[.val (.int p0), .val (.int p1), .val (.ref a1), .val (.ref a4), .val (.int (p0 &&& (15 : Int32))), .val (.int (m0_45_s0 p0)), .val (.int (v0_52 p1)), .val (.int (f6 (v0_52 p1))), .unset] [(.int (f1 (f6 (v0_52 p1)) (own_tab [(48 : Int32), (49 : Int32), (50 : Int32), (51 : Int32), (52 : Int32), (53 : Int32), (54 : Int32), (55 : Int32), (56 : Int32), (57 : Int32), (65 : Int32), (66 : Int32), (67 : Int32), (68 : Int32), (69 : Int32), (70 : Int32)])))])) t
            refine XS.iload X38.here hx rfl (hb hby at_91) rfl ?_
            exact k
          by_cases hc93_41 : (f1 (f6 (v0_52 p1)) (own_tab [(48 : Int32), (49 : Int32), (50 : Int32), (51 : Int32), (52 : Int32), (53 : Int32), (54 : Int32), (55 : Int32), (56 : Int32), (57 : Int32), (65 : Int32), (66 : Int32), (67 : Int32), (68 : Int32), (69 : Int32), (70 : Int32)])) = (v0_52 p1)
          · have k42 : own_Go p e below (s₁.setTop (entryFrame m #[(.int p0), (.int p1)] maxLocals)) (T38.setTop (mkF m 120 #[.val (.int p0), .val (.int p1), .val (.ref a1), .val (.ref a4), .val (.int (p0 &&& (15 : Int32))), .val (.int (m0_45_s0 p0)), .val (.int (v0_52 p1)), .val (.int (f6 (v0_52 p1))), .val (.int (1 : Int32))] [])) := by
              intro t k
              refine k40 t ?_
              show Steps p.tables e below (T38.setTop (mkF m 93 #[.val (.int p0), .val (.int p1), .val (.ref a1), .val (.ref a4), .val (.int (p0 &&& (15 : Int32))), .val (.int (m0_45_s0 p0)), .val (.int (v0_52 p1)), .val (.int (f6 (v0_52 p1))), .unset] [(.int (v0_52 p1)), (.int (f1 (f6 (v0_52 p1)) (own_tab [(48 : Int32), (49 : Int32), (50 : Int32), (51 : Int32), (52 : Int32), (53 : Int32), (54 : Int32), (55 : Int32), (56 : Int32), (57 : Int32), (65 : Int32), (66 : Int32), (67 : Int32), (68 : Int32), (69 : Int32), (70 : Int32)])))])) t
              refine XS.icmpYes X38.here hx rfl (pc0 := 93) (pc' := 107) rfl (hb hby at_93) rfl (teq hc93_41).1 (by decide) (by decide) ?_
              show Steps p.tables e below (T38.setTop (mkF m 107 #[.val (.int p0), .val (.int p1), .val (.ref a1), .val (.ref a4), .val (.int (p0 &&& (15 : Int32))), .val (.int (m0_45_s0 p0)), .val (.int (v0_52 p1)), .val (.int (f6 (v0_52 p1))), .unset] [])) t
              refine XS.iconst X38.here hx rfl (hb hby at_107) ?_
              show Steps p.tables e below (T38.setTop (mkF m 108 #[.val (.int p0), .val (.int p1), .val (.ref a1), .val (.ref a4), .val (.int (p0 &&& (15 : Int32))), .val (.int (m0_45_s0 p0)), .val (.int (v0_52 p1)), .val (.int (f6 (v0_52 p1))), .unset] [(.int (1 : Int32))])) t
              refine XS.goto X38.here hx rfl (pc0 := 108) (pc' := 112) rfl (hb hby at_108) (by decide) (by decide) ?_
              show Steps p.tables e below (T38.setTop (mkF m 112 #[.val (.int p0), .val (.int p1), .val (.ref a1), .val (.ref a4), .val (.int (p0 &&& (15 : Int32))), .val (.int (m0_45_s0 p0)), .val (.int (v0_52 p1)), .val (.int (f6 (v0_52 p1))), .unset] [(.int (1 : Int32))])) t
              refine XS.istore X38.here hx rfl (hb hby at_112) rfl (l' := #[.val (.int p0), .val (.int p1), .val (.ref a1), .val (.ref a4), .val (.int (p0 &&& (15 : Int32))), .val (.int (m0_45_s0 p0)), .val (.int (v0_52 p1)), .val (.int (f6 (v0_52 p1))), .val (.int (1 : Int32))]) rfl ?_
              show Steps p.tables e below (T38.setTop (mkF m 114 #[.val (.int p0), .val (.int p1), .val (.ref a1), .val (.ref a4), .val (.int (p0 &&& (15 : Int32))), .val (.int (m0_45_s0 p0)), .val (.int (v0_52 p1)), .val (.int (f6 (v0_52 p1))), .val (.int (1 : Int32))] [])) t
              refine XS.goto X38.here hx rfl (pc0 := 114) (pc' := 120) rfl (hb hby at_114) (by decide) (by decide) ?_
              exact k
            exact ⟨_, _, X38, eh38, N38, (by rw [show (m0_120_l8 p1) = (1 : Int32) from (by unfold m0_120_l8; rw [if_neg hc64_29, if_neg hc75_32, if_neg hc82_35, if_pos hc93_41])]; exact k42)⟩
          · have k43 : own_Go p e below (s₁.setTop (entryFrame m #[(.int p0), (.int p1)] maxLocals)) (T38.setTop (mkF m 99 #[.val (.int p0), .val (.int p1), .val (.ref a1), .val (.ref a4), .val (.int (p0 &&& (15 : Int32))), .val (.int (m0_45_s0 p0)), .val (.int (v0_52 p1)), .val (.int (f6 (v0_52 p1))), .unset] [(.int (f6 (v0_52 p1))), (.ref a4)])) := by
              intro t k
              refine k40 t ?_
              show Steps p.tables e below (T38.setTop (mkF m 93 #[.val (.int p0), .val (.int p1), .val (.ref a1), .val (.ref a4), .val (.int (p0 &&& (15 : Int32))), .val (.int (m0_45_s0 p0)), .val (.int (v0_52 p1)), .val (.int (f6 (v0_52 p1))), .unset] [(.int (v0_52 p1)), (.int (f1 (f6 (v0_52 p1)) (own_tab [(48 : Int32), (49 : Int32), (50 : Int32), (51 : Int32), (52 : Int32), (53 : Int32), (54 : Int32), (55 : Int32), (56 : Int32), (57 : Int32), (65 : Int32), (66 : Int32), (67 : Int32), (68 : Int32), (69 : Int32), (70 : Int32)])))])) t
              refine XS.icmpNo X38.here hx rfl (hb hby at_93) rfl (feq hc93_41).1 ?_
              show Steps p.tables e below (T38.setTop (mkF m 96 #[.val (.int p0), .val (.int p1), .val (.ref a1), .val (.ref a4), .val (.int (p0 &&& (15 : Int32))), .val (.int (m0_45_s0 p0)), .val (.int (v0_52 p1)), .val (.int (f6 (v0_52 p1))), .unset] [])) t
              refine XS.aloadN X38.here hx rfl (hb hby at_96) rfl rfl ?_
              show Steps p.tables e below (T38.setTop (mkF m 97 #[.val (.int p0), .val (.int p1), .val (.ref a1), .val (.ref a4), .val (.int (p0 &&& (15 : Int32))), .val (.int (m0_45_s0 p0)), .val (.int (v0_52 p1)), .val (.int (f6 (v0_52 p1))), .unset] [(.ref a4)])) t
              refine XS.iload X38.here hx rfl (hb hby at_97) rfl ?_
              exact k
            obtain ⟨cq44, kq44, q44a, q44b, q44c⟩ := isOf hZ eh38 A4
            obtain ⟨_, _, ⟨T44, L44, kk44, n44⟩, -, X44, ⟨Lc44, hQ44, l44, y44, z44⟩, st44⟩ := X38.virtualBack hx (y := (⟨"java/lang/String", "charAt", "(I)C"⟩ : MethodName)) (z := (⟨"java/lang/String", "charAt", "(I)C"⟩ : MethodName)) hown (mvT hZ (hw _ (List.mem_of_getElem? (i := 9) rfl))) (mvT hZ (hw _ (List.mem_of_getElem? (i := 10) rfl))) (notFace_of_selects (args := #[]) (mvT hZ (hw _ (List.mem_of_getElem? (i := 12) rfl)))) (mvT hZ (hw _ (List.mem_of_getElem? (i := 12) rfl))) (mvT hZ (hw _ (List.mem_of_getElem? (i := 11) rfl))) (by decide) (backOf (W := 0) (rm1 l Z a0 hw [] a4 (f6 (v0_52 p1)) (own_tab [(48 : Int32), (49 : Int32), (50 : Int32), (51 : Int32), (52 : Int32), (53 : Int32), (54 : Int32), (55 : Int32), (56 : Int32), (57 : Int32), (97 : Int32), (98 : Int32), (99 : Int32), (100 : Int32), (101 : Int32), (102 : Int32)]) b4 wC wF h4 n0 (Nat.le_trans (Nat.le_trans Z0 E1.1) E4.1) A4 Co4 Va4 By4 ((S_C.ext E1).ext E4) hC ((S_F.ext E1).ext E4) hF hc75_32 (own_lt16 hc82_35)) hZ (hw _ (List.mem_of_getElem? (i := 13) rfl)) (hw _ (List.mem_of_getElem? (i := 1) rfl)) (by decide) (by decide)) q44a q44c (g := (mkF m 99 #[.val (.int p0), .val (.int p1), .val (.ref a1), .val (.ref a4), .val (.int (p0 &&& (15 : Int32))), .val (.int (m0_45_s0 p0)), .val (.int (v0_52 p1)), .val (.int (f6 (v0_52 p1))), .unset] [(.int (f6 (v0_52 p1))), (.ref a4)])) rfl (by rw [hml]; rfl) (Steps.refl _) (argsL := [(.int (f6 (v0_52 p1)))]) (rest := []) (lenOf pd_4 rfl) rfl (by show 2 * 0 + _ ≤ _; exact Nat.le_of_eq rfl) (hb hby at_99) (fun _ _ => ⟨rfl, eh38, (by decide : 4 + 0 ≤ _), (by decide : 136 + 0 ≤ _)⟩)
            dsimp only [Pt.U, Pt.locs, Pt.cells, Pt.slots] at X44 l44 y44 z44 st44 hQ44
            subst l44 y44 z44
            obtain ⟨rfl, N44q, eh44⟩ := hQ44
            have N44 := Fr.app N38 N44q
            have k45 : own_Go p e below (s₁.setTop (entryFrame m #[(.int p0), (.int p1)] maxLocals)) (T44.setTop (mkF m 102 #[.val (.int p0), .val (.int p1), .val (.ref a1), .val (.ref a4), .val (.int (p0 &&& (15 : Int32))), .val (.int (m0_45_s0 p0)), .val (.int (v0_52 p1)), .val (.int (f6 (v0_52 p1))), .unset] [(.int (f1 (f6 (v0_52 p1)) (own_tab [(48 : Int32), (49 : Int32), (50 : Int32), (51 : Int32), (52 : Int32), (53 : Int32), (54 : Int32), (55 : Int32), (56 : Int32), (57 : Int32), (97 : Int32), (98 : Int32), (99 : Int32), (100 : Int32), (101 : Int32), (102 : Int32)])))])) := fun t k => k43 t (st44.trans k)
            have k46 : own_Go p e below (s₁.setTop (entryFrame m #[(.int p0), (.int p1)] maxLocals)) (T44.setTop (mkF m 104 #[.val (.int p0), .val (.int p1), .val (.ref a1), .val (.ref a4), .val (.int (p0 &&& (15 : Int32))), .val (.int (m0_45_s0 p0)), .val (.int (v0_52 p1)), .val (.int (f6 (v0_52 p1))), .unset] [(.int (v0_52 p1)), (.int (f1 (f6 (v0_52 p1)) (own_tab [(48 : Int32), (49 : Int32), (50 : Int32), (51 : Int32), (52 : Int32), (53 : Int32), (54 : Int32), (55 : Int32), (56 : Int32), (57 : Int32), (97 : Int32), (98 : Int32), (99 : Int32), (100 : Int32), (101 : Int32), (102 : Int32)])))])) := by
              intro t k
              refine k45 t ?_
              show Steps p.tables e below (T44.setTop (mkF m 102 #[.val (.int p0), .val (.int p1), .val (.ref a1), .val (.ref a4), .val (.int (p0 &&& (15 : Int32))), .val (.int (m0_45_s0 p0)), .val (.int (v0_52 p1)), .val (.int (f6 (v0_52 p1))), .unset] [(.int (f1 (f6 (v0_52 p1)) (own_tab [(48 : Int32), (49 : Int32), (50 : Int32), (51 : Int32), (52 : Int32), (53 : Int32), (54 : Int32), (55 : Int32), (56 : Int32), (57 : Int32), (97 : Int32), (98 : Int32), (99 : Int32), (100 : Int32), (101 : Int32), (102 : Int32)])))])) t
              refine XS.iload X44.here hx rfl (hb hby at_102) rfl ?_
              exact k
            by_cases hc104_47 : (f1 (f6 (v0_52 p1)) (own_tab [(48 : Int32), (49 : Int32), (50 : Int32), (51 : Int32), (52 : Int32), (53 : Int32), (54 : Int32), (55 : Int32), (56 : Int32), (57 : Int32), (97 : Int32), (98 : Int32), (99 : Int32), (100 : Int32), (101 : Int32), (102 : Int32)])) = (v0_52 p1)
            · have k48 : own_Go p e below (s₁.setTop (entryFrame m #[(.int p0), (.int p1)] maxLocals)) (T44.setTop (mkF m 120 #[.val (.int p0), .val (.int p1), .val (.ref a1), .val (.ref a4), .val (.int (p0 &&& (15 : Int32))), .val (.int (m0_45_s0 p0)), .val (.int (v0_52 p1)), .val (.int (f6 (v0_52 p1))), .val (.int (1 : Int32))] [])) := by
                intro t k
                refine k46 t ?_
                show Steps p.tables e below (T44.setTop (mkF m 104 #[.val (.int p0), .val (.int p1), .val (.ref a1), .val (.ref a4), .val (.int (p0 &&& (15 : Int32))), .val (.int (m0_45_s0 p0)), .val (.int (v0_52 p1)), .val (.int (f6 (v0_52 p1))), .unset] [(.int (v0_52 p1)), (.int (f1 (f6 (v0_52 p1)) (own_tab [(48 : Int32), (49 : Int32), (50 : Int32), (51 : Int32), (52 : Int32), (53 : Int32), (54 : Int32), (55 : Int32), (56 : Int32), (57 : Int32), (97 : Int32), (98 : Int32), (99 : Int32), (100 : Int32), (101 : Int32), (102 : Int32)])))])) t
                refine XS.icmpNo X44.here hx rfl (hb hby at_104) rfl (teq hc104_47).2 ?_
                show Steps p.tables e below (T44.setTop (mkF m 107 #[.val (.int p0), .val (.int p1), .val (.ref a1), .val (.ref a4), .val (.int (p0 &&& (15 : Int32))), .val (.int (m0_45_s0 p0)), .val (.int (v0_52 p1)), .val (.int (f6 (v0_52 p1))), .unset] [])) t
                refine XS.iconst X44.here hx rfl (hb hby at_107) ?_
                show Steps p.tables e below (T44.setTop (mkF m 108 #[.val (.int p0), .val (.int p1), .val (.ref a1), .val (.ref a4), .val (.int (p0 &&& (15 : Int32))), .val (.int (m0_45_s0 p0)), .val (.int (v0_52 p1)), .val (.int (f6 (v0_52 p1))), .unset] [(.int (1 : Int32))])) t
                refine XS.goto X44.here hx rfl (pc0 := 108) (pc' := 112) rfl (hb hby at_108) (by decide) (by decide) ?_
                show Steps p.tables e below (T44.setTop (mkF m 112 #[.val (.int p0), .val (.int p1), .val (.ref a1), .val (.ref a4), .val (.int (p0 &&& (15 : Int32))), .val (.int (m0_45_s0 p0)), .val (.int (v0_52 p1)), .val (.int (f6 (v0_52 p1))), .unset] [(.int (1 : Int32))])) t
                refine XS.istore X44.here hx rfl (hb hby at_112) rfl (l' := #[.val (.int p0), .val (.int p1), .val (.ref a1), .val (.ref a4), .val (.int (p0 &&& (15 : Int32))), .val (.int (m0_45_s0 p0)), .val (.int (v0_52 p1)), .val (.int (f6 (v0_52 p1))), .val (.int (1 : Int32))]) rfl ?_
                show Steps p.tables e below (T44.setTop (mkF m 114 #[.val (.int p0), .val (.int p1), .val (.ref a1), .val (.ref a4), .val (.int (p0 &&& (15 : Int32))), .val (.int (m0_45_s0 p0)), .val (.int (v0_52 p1)), .val (.int (f6 (v0_52 p1))), .val (.int (1 : Int32))] [])) t
                refine XS.goto X44.here hx rfl (pc0 := 114) (pc' := 120) rfl (hb hby at_114) (by decide) (by decide) ?_
                exact k
              exact ⟨_, _, X44, eh44, N44, (by rw [show (m0_120_l8 p1) = (1 : Int32) from (by unfold m0_120_l8; rw [if_neg hc64_29, if_neg hc75_32, if_neg hc82_35, if_neg hc93_41, if_pos hc104_47])]; exact k48)⟩
            · have k49 : own_Go p e below (s₁.setTop (entryFrame m #[(.int p0), (.int p1)] maxLocals)) (T44.setTop (mkF m 120 #[.val (.int p0), .val (.int p1), .val (.ref a1), .val (.ref a4), .val (.int (p0 &&& (15 : Int32))), .val (.int (m0_45_s0 p0)), .val (.int (v0_52 p1)), .val (.int (f6 (v0_52 p1))), .val (.int (0 : Int32))] [])) := by
                intro t k
                refine k46 t ?_
                show Steps p.tables e below (T44.setTop (mkF m 104 #[.val (.int p0), .val (.int p1), .val (.ref a1), .val (.ref a4), .val (.int (p0 &&& (15 : Int32))), .val (.int (m0_45_s0 p0)), .val (.int (v0_52 p1)), .val (.int (f6 (v0_52 p1))), .unset] [(.int (v0_52 p1)), (.int (f1 (f6 (v0_52 p1)) (own_tab [(48 : Int32), (49 : Int32), (50 : Int32), (51 : Int32), (52 : Int32), (53 : Int32), (54 : Int32), (55 : Int32), (56 : Int32), (57 : Int32), (97 : Int32), (98 : Int32), (99 : Int32), (100 : Int32), (101 : Int32), (102 : Int32)])))])) t
                refine XS.icmpYes X44.here hx rfl (pc0 := 104) (pc' := 111) rfl (hb hby at_104) rfl (feq hc104_47).2 (by decide) (by decide) ?_
                show Steps p.tables e below (T44.setTop (mkF m 111 #[.val (.int p0), .val (.int p1), .val (.ref a1), .val (.ref a4), .val (.int (p0 &&& (15 : Int32))), .val (.int (m0_45_s0 p0)), .val (.int (v0_52 p1)), .val (.int (f6 (v0_52 p1))), .unset] [])) t
                refine XS.iconst X44.here hx rfl (hb hby at_111) ?_
                show Steps p.tables e below (T44.setTop (mkF m 112 #[.val (.int p0), .val (.int p1), .val (.ref a1), .val (.ref a4), .val (.int (p0 &&& (15 : Int32))), .val (.int (m0_45_s0 p0)), .val (.int (v0_52 p1)), .val (.int (f6 (v0_52 p1))), .unset] [(.int (0 : Int32))])) t
                refine XS.istore X44.here hx rfl (hb hby at_112) rfl (l' := #[.val (.int p0), .val (.int p1), .val (.ref a1), .val (.ref a4), .val (.int (p0 &&& (15 : Int32))), .val (.int (m0_45_s0 p0)), .val (.int (v0_52 p1)), .val (.int (f6 (v0_52 p1))), .val (.int (0 : Int32))]) rfl ?_
                show Steps p.tables e below (T44.setTop (mkF m 114 #[.val (.int p0), .val (.int p1), .val (.ref a1), .val (.ref a4), .val (.int (p0 &&& (15 : Int32))), .val (.int (m0_45_s0 p0)), .val (.int (v0_52 p1)), .val (.int (f6 (v0_52 p1))), .val (.int (0 : Int32))] [])) t
                refine XS.goto X44.here hx rfl (pc0 := 114) (pc' := 120) rfl (hb hby at_114) (by decide) (by decide) ?_
                exact k
              exact ⟨_, _, X44, eh44, N44, (by rw [show (m0_120_l8 p1) = (0 : Int32) from (by unfold m0_120_l8; rw [if_neg hc64_29, if_neg hc75_32, if_neg hc82_35, if_neg hc93_41, if_neg hc104_47])]; exact k49)⟩
  have k50 : own_Go p e below (s₁.setTop (entryFrame m #[(.int p0), (.int p1)] maxLocals)) (T28.setTop (mkF m 122 #[.val (.int p0), .val (.int p1), .val (.ref a1), .val (.ref a4), .val (.int (p0 &&& (15 : Int32))), .val (.int (m0_45_s0 p0)), .val (.int (v0_52 p1)), .val (.int (f6 (v0_52 p1))), .val (.int (m0_120_l8 p1))] [(.int (m0_45_s0 p0))])) := by
    intro t k
    refine k28 t ?_
    show Steps p.tables e below (T28.setTop (mkF m 120 #[.val (.int p0), .val (.int p1), .val (.ref a1), .val (.ref a4), .val (.int (p0 &&& (15 : Int32))), .val (.int (m0_45_s0 p0)), .val (.int (v0_52 p1)), .val (.int (f6 (v0_52 p1))), .val (.int (m0_120_l8 p1))] [])) t
    refine XS.iload X28.here hx rfl (hb hby at_120) rfl ?_
    exact k
  by_cases hc122_51 : (m0_45_s0 p0) = (0 : Int32)
  · have k52 : own_Go p e below (s₁.setTop (entryFrame m #[(.int p0), (.int p1)] maxLocals)) (T28.setTop (mkF m 135 #[.val (.int p0), .val (.int p1), .val (.ref a1), .val (.ref a4), .val (.int (p0 &&& (15 : Int32))), .val (.int (m0_45_s0 p0)), .val (.int (v0_52 p1)), .val (.int (f6 (v0_52 p1))), .val (.int (m0_120_l8 p1))] [(.int (0 : Int32))])) := by
      intro t k
      refine k50 t ?_
      show Steps p.tables e below (T28.setTop (mkF m 122 #[.val (.int p0), .val (.int p1), .val (.ref a1), .val (.ref a4), .val (.int (p0 &&& (15 : Int32))), .val (.int (m0_45_s0 p0)), .val (.int (v0_52 p1)), .val (.int (f6 (v0_52 p1))), .val (.int (m0_120_l8 p1))] [(.int (m0_45_s0 p0))])) t
      refine XS.ifYes X28.here hx rfl (pc0 := 122) (pc' := 134) rfl (hb hby at_122) rfl ((if0 _ _).trans (teq hc122_51).1) (by decide) (by decide) ?_
      show Steps p.tables e below (T28.setTop (mkF m 134 #[.val (.int p0), .val (.int p1), .val (.ref a1), .val (.ref a4), .val (.int (p0 &&& (15 : Int32))), .val (.int (m0_45_s0 p0)), .val (.int (v0_52 p1)), .val (.int (f6 (v0_52 p1))), .val (.int (m0_120_l8 p1))] [])) t
      refine XS.iconst X28.here hx rfl (hb hby at_134) ?_
      exact k
    obtain ⟨fs, hr, hrun, hended, hre1, hre2, hre3, hsame⟩ := Stand.leaveW (s := s) X28 hS4' (by rw [e28]; exact (Nat.le_refl _)) (v := some (.int (0 : Int32))) (fun h => by rw [Bd.returns] at h; cases h)
    refine ⟨_, _, k52 _ ?_, hrun, hended, _, _, rfl, ?_, ⟨_, rfl⟩, hre2, hre3, hsame.mono (by decide) (by decide)⟩
    · exact retN X28 hx (t := .boolean) Bd.returns (by simp) (hb hby at_135) hr
    · show Q0 Z p0 p1 wC wF h0 n0 _ T28.heap _
      rw [e28]
      exact ⟨congrArg (fun z => some (Value.int z)) (show f0 p0 p1 = (0 : Int32) from (by unfold f0; rw [if_pos hc122_51])).symm, N28⟩
  · have k53 : own_Go p e below (s₁.setTop (entryFrame m #[(.int p0), (.int p1)] maxLocals)) (T28.setTop (mkF m 127 #[.val (.int p0), .val (.int p1), .val (.ref a1), .val (.ref a4), .val (.int (p0 &&& (15 : Int32))), .val (.int (m0_45_s0 p0)), .val (.int (v0_52 p1)), .val (.int (f6 (v0_52 p1))), .val (.int (m0_120_l8 p1))] [(.int (m0_120_l8 p1))])) := by
      intro t k
      refine k50 t ?_
      show Steps p.tables e below (T28.setTop (mkF m 122 #[.val (.int p0), .val (.int p1), .val (.ref a1), .val (.ref a4), .val (.int (p0 &&& (15 : Int32))), .val (.int (m0_45_s0 p0)), .val (.int (v0_52 p1)), .val (.int (f6 (v0_52 p1))), .val (.int (m0_120_l8 p1))] [(.int (m0_45_s0 p0))])) t
      refine XS.ifNo X28.here hx rfl (hb hby at_122) rfl ((if0 _ _).trans (feq hc122_51).1) ?_
      show Steps p.tables e below (T28.setTop (mkF m 125 #[.val (.int p0), .val (.int p1), .val (.ref a1), .val (.ref a4), .val (.int (p0 &&& (15 : Int32))), .val (.int (m0_45_s0 p0)), .val (.int (v0_52 p1)), .val (.int (f6 (v0_52 p1))), .val (.int (m0_120_l8 p1))] [])) t
      refine XS.iload X28.here hx rfl (hb hby at_125) rfl ?_
      exact k
    by_cases hc127_54 : (m0_120_l8 p1) = (0 : Int32)
    · have k55 : own_Go p e below (s₁.setTop (entryFrame m #[(.int p0), (.int p1)] maxLocals)) (T28.setTop (mkF m 135 #[.val (.int p0), .val (.int p1), .val (.ref a1), .val (.ref a4), .val (.int (p0 &&& (15 : Int32))), .val (.int (m0_45_s0 p0)), .val (.int (v0_52 p1)), .val (.int (f6 (v0_52 p1))), .val (.int (m0_120_l8 p1))] [(.int (0 : Int32))])) := by
        intro t k
        refine k53 t ?_
        show Steps p.tables e below (T28.setTop (mkF m 127 #[.val (.int p0), .val (.int p1), .val (.ref a1), .val (.ref a4), .val (.int (p0 &&& (15 : Int32))), .val (.int (m0_45_s0 p0)), .val (.int (v0_52 p1)), .val (.int (f6 (v0_52 p1))), .val (.int (m0_120_l8 p1))] [(.int (m0_120_l8 p1))])) t
        refine XS.ifYes X28.here hx rfl (pc0 := 127) (pc' := 134) rfl (hb hby at_127) rfl ((if0 _ _).trans (teq hc127_54).1) (by decide) (by decide) ?_
        show Steps p.tables e below (T28.setTop (mkF m 134 #[.val (.int p0), .val (.int p1), .val (.ref a1), .val (.ref a4), .val (.int (p0 &&& (15 : Int32))), .val (.int (m0_45_s0 p0)), .val (.int (v0_52 p1)), .val (.int (f6 (v0_52 p1))), .val (.int (m0_120_l8 p1))] [])) t
        refine XS.iconst X28.here hx rfl (hb hby at_134) ?_
        exact k
      obtain ⟨fs, hr, hrun, hended, hre1, hre2, hre3, hsame⟩ := Stand.leaveW (s := s) X28 hS4' (by rw [e28]; exact (Nat.le_refl _)) (v := some (.int (0 : Int32))) (fun h => by rw [Bd.returns] at h; cases h)
      refine ⟨_, _, k55 _ ?_, hrun, hended, _, _, rfl, ?_, ⟨_, rfl⟩, hre2, hre3, hsame.mono (by decide) (by decide)⟩
      · exact retN X28 hx (t := .boolean) Bd.returns (by simp) (hb hby at_135) hr
      · show Q0 Z p0 p1 wC wF h0 n0 _ T28.heap _
        rw [e28]
        exact ⟨congrArg (fun z => some (Value.int z)) (show f0 p0 p1 = (0 : Int32) from (by unfold f0; rw [if_neg hc122_51, if_pos hc127_54])).symm, N28⟩
    · have k56 : own_Go p e below (s₁.setTop (entryFrame m #[(.int p0), (.int p1)] maxLocals)) (T28.setTop (mkF m 135 #[.val (.int p0), .val (.int p1), .val (.ref a1), .val (.ref a4), .val (.int (p0 &&& (15 : Int32))), .val (.int (m0_45_s0 p0)), .val (.int (v0_52 p1)), .val (.int (f6 (v0_52 p1))), .val (.int (m0_120_l8 p1))] [(.int (1 : Int32))])) := by
        intro t k
        refine k53 t ?_
        show Steps p.tables e below (T28.setTop (mkF m 127 #[.val (.int p0), .val (.int p1), .val (.ref a1), .val (.ref a4), .val (.int (p0 &&& (15 : Int32))), .val (.int (m0_45_s0 p0)), .val (.int (v0_52 p1)), .val (.int (f6 (v0_52 p1))), .val (.int (m0_120_l8 p1))] [(.int (m0_120_l8 p1))])) t
        refine XS.ifNo X28.here hx rfl (hb hby at_127) rfl ((if0 _ _).trans (feq hc127_54).1) ?_
        show Steps p.tables e below (T28.setTop (mkF m 130 #[.val (.int p0), .val (.int p1), .val (.ref a1), .val (.ref a4), .val (.int (p0 &&& (15 : Int32))), .val (.int (m0_45_s0 p0)), .val (.int (v0_52 p1)), .val (.int (f6 (v0_52 p1))), .val (.int (m0_120_l8 p1))] [])) t
        refine XS.iconst X28.here hx rfl (hb hby at_130) ?_
        show Steps p.tables e below (T28.setTop (mkF m 131 #[.val (.int p0), .val (.int p1), .val (.ref a1), .val (.ref a4), .val (.int (p0 &&& (15 : Int32))), .val (.int (m0_45_s0 p0)), .val (.int (v0_52 p1)), .val (.int (f6 (v0_52 p1))), .val (.int (m0_120_l8 p1))] [(.int (1 : Int32))])) t
        refine XS.goto X28.here hx rfl (pc0 := 131) (pc' := 135) rfl (hb hby at_131) (by decide) (by decide) ?_
        exact k
      obtain ⟨fs, hr, hrun, hended, hre1, hre2, hre3, hsame⟩ := Stand.leaveW (s := s) X28 hS4' (by rw [e28]; exact (Nat.le_refl _)) (v := some (.int (1 : Int32))) (fun h => by rw [Bd.returns] at h; cases h)
      refine ⟨_, _, k56 _ ?_, hrun, hended, _, _, rfl, ?_, ⟨_, rfl⟩, hre2, hre3, hsame.mono (by decide) (by decide)⟩
      · exact retN X28 hx (t := .boolean) Bd.returns (by simp) (hb hby at_135) hr
      · show Q0 Z p0 p1 wC wF h0 n0 _ T28.heap _
        rw [e28]
        exact ⟨congrArg (fun z => some (Value.int z)) (show f0 p0 p1 = (1 : Int32) from (by unfold f0; rw [if_neg hc122_51, if_neg hc127_54])).symm, N28⟩
def own_up16 : Nat → Int32 := own_tab [(48 : Int32), (49 : Int32), (50 : Int32), (51 : Int32), (52 : Int32), (53 : Int32), (54 : Int32), (55 : Int32), (56 : Int32), (57 : Int32), (65 : Int32), (66 : Int32), (67 : Int32), (68 : Int32), (69 : Int32), (70 : Int32)]
def own_lo16 : Nat → Int32 := own_tab [(48 : Int32), (49 : Int32), (50 : Int32), (51 : Int32), (52 : Int32), (53 : Int32), (54 : Int32), (55 : Int32), (56 : Int32), (57 : Int32), (97 : Int32), (98 : Int32), (99 : Int32), (100 : Int32), (101 : Int32), (102 : Int32)]
def own_d (v : Int32) : Int32 := (if f6 (f1 v own_up16) = v then (if f6 (f1 v own_lo16) = v then (1 : Int32) else (0 : Int32)) else (0 : Int32))
def own_m (c : Int32) : Int32 := (if f6 c = (-1 : Int32) then (1 : Int32) else (if f6 c < (0 : Int32) then (0 : Int32) else (if (15 : Int32) < f6 c then (0 : Int32) else (if f1 (f6 c) own_up16 = c then (1 : Int32) else (if f1 (f6 c) own_lo16 = c then (1 : Int32) else (0 : Int32))))))
theorem own_d16 : ∀ k, k < 16 → own_d (Int32.ofNat k) = 1 := by decide +kernel
theorem own_m103 : ∀ k, k < 103 → own_m (Int32.ofNat k) = 1 := by decide +kernel
theorem own_of_range (x : Int32) (n : Nat) (hn : n ≤ 1000) (h0 : 0 ≤ x.toInt) (h1 : x.toInt < n) : ∃ k, k < n ∧ x = Int32.ofNat k := by
  refine ⟨x.toInt.toNat, by omega, ?_⟩
  apply Int32.toInt_inj.mp
  rw [Int32.toInt_ofNat_of_lt (by omega)]
  omega
theorem own_u16 (u : UInt16) : (u.toUInt32.toInt32).toInt = (u.toNat : Int) := by
  have e : u.toUInt32.toBitVec.toNat = u.toNat := UInt16.toNat_toUInt32 u
  have hu := u.toNat_lt
  have q : u.toUInt32.toBitVec.toInt = (u.toUInt32.toBitVec.toNat : Int) := BitVec.toInt_eq_toNat_of_lt (by omega)
  exact q.trans (by rw [e])
theorem own_char (p : Int32) : 0 ≤ (v0_52 p).toInt ∧ (v0_52 p).toInt < 65536 := by
  unfold v0_52
  rw [own_u16]
  have := (p &&& (65535 : Int32)).toUInt32.toUInt16.toNat_lt
  omega
theorem own_law (p0 p1 : Int32) : f0 p0 p1 = 1 := by
  have e1 : m0_45_s0 p0 = 1 := by
    have e := Jvm.Kit.i32_mask p0 15 (k := 4) (by decide) (by decide)
    obtain ⟨k, hk, ek⟩ := own_of_range (p0 &&& 15) 16 (by decide) (by omega) (by omega)
    have q := own_d16 k hk
    rw [← ek] at q
    exact q
  have e2 : m0_120_l8 p1 = 1 := by
    show own_m (v0_52 p1) = 1
    obtain ⟨c0, c1⟩ := own_char p1
    by_cases g : (v0_52 p1).toInt < 103
    · obtain ⟨k, hk, ek⟩ := own_of_range (v0_52 p1) 103 (by decide) c0 g
      rw [ek]; exact own_m103 k hk
    · have r : f6 (v0_52 p1) = (-1 : Int32) := by
        generalize v0_52 p1 = c at *
        have l : ∀ z : Int32, z.toInt ≤ 102 → ¬ c < z ∧ z < c := fun z hz => by rw [Int32.lt_iff_toInt_lt, Int32.lt_iff_toInt_lt]; omega
        unfold f6
        rw [if_neg (l 48 (by decide)).1, if_pos (l 57 (by decide)).2, if_neg (l 65 (by decide)).1, if_pos (l 70 (by decide)).2, if_neg (l 97 (by decide)).1, if_pos (l 102 (by decide)).2]
      unfold own_m
      rw [if_pos r]
  unfold f0
  rw [e1, e2, if_neg (by decide), if_neg (by decide)]

set_option maxRecDepth 65536 in
set_option maxHeartbeats 40000000 in
theorem comes_1 {Post : Tables → Env → Array Value → State → Outcome → State → Prop} (hpost : ∀ tb e args s v u, (limb_1_1.after args s (.returned v) u = true ∧ limb_1_2.after args s (.returned v) u = true ∧ True) → ReturnedEndW s (.returned v) u (Jvm.fieldLocs frame_1_writes args s ++ Jvm.arrayLocs frame_1_arrays args s ++ Jvm.staticLocs frame_1_statics s) 8 2112 → Post tb e args s (.returned v) u) :
    ArmFor flags0 classFile x code maxLocals ret World_1 tables_1 room_1 Calls_1 rest_1 Pre_1 Post := by
  intro l hfl _ _ p e ha hc hk s m args below hf hA hF happ hP
  obtain ⟨hcalls, hrest, hpre⟩ := hP
  obtain ⟨-, -, -, hnamed, -, -, -, hat⟩ := (Spec.applies_iff hf).mp happ
  obtain ⟨hg, hn⟩ := and_e (Cond.before_iff.mp (show (Jvm.Cond.and given_1 narrow_1).before args s = true from hpre))
  obtain ⟨u1, u2⟩ := and_e hg
  obtain ⟨u3, u4⟩ := and_e u2
  obtain ⟨w0, w1, rfl⟩ : ∃ w0 w1 : Value, args = #[w0, w1] := by
    have hs : args.size = 2 := by simpa [Cond.value, given_1] using u1
    obtain ⟨L⟩ := args
    match L, hs with
    | [w0, w1], _ => exact ⟨w0, w1, rfl⟩
  have hw := fun d (hd : d ∈ tables_1) => atoms_spec (ws := Jvm.Cond.code x code maxLocals ret :: tables_1) hat d (List.mem_cons_of_mem _ hd)
  have hfit : Fit s := fun {y c} hc i hi => by
    obtain ⟨ha, rfl⟩ := Array.getElem?_eq_some_iff.mp hc
    have q := List.all_eq_true.mp ((Array.all_eq_true_iff_forall_mem.mp hF) _ (Array.getElem_mem ha)) i (List.mem_range.mpr hi)
    simpa [Array.getElem?_eq_getElem hi] using q
  obtain ⟨hsets, hown0⟩ := atoms_of _ (rest_1_c_eq ▸ (show rest_1_c.before _ s = true from hrest))
  have hr0 := Cond.before_iff.mp hown0
  obtain ⟨i0, ei0⟩ := is_v u3
  obtain rfl : w0 = (.int i0) := Option.some.inj ei0
  obtain ⟨i1, ei1⟩ := is_v u4
  obtain rfl : w1 = (.int i1) := Option.some.inj ei1
  have hcw : Jvm.Lit.compactW.before _ s = true := hsets _ (List.mem_of_getElem? (i := 2) rfl)
  obtain ⟨wC, evC⟩ := is_v (Cond.before_iff.mp (hsets _ (List.mem_of_getElem? (i := 1) rfl)))
  have S_C : Sta s s.heap "java/lang/String" "COMPACT_STRINGS" "Z" (.int wC) := Sta.start evC (Or.inl (hsets _ (List.mem_of_getElem? (i := 0) rfl)))
  have hC : ¬ wC = (0 : Int32) := own_notz evC (hsets _ (List.mem_of_getElem? (i := 2) rfl))
  obtain ⟨wF, evF, hF⟩ := isR_v (Cond.before_iff.mp (hsets _ (List.mem_of_getElem? (i := 8) rfl)))
  have S_F : Sta s s.heap "jdk/internal/util/Preconditions" "SIOOBE_FORMATTER" "Ljava/util/function/BiFunction;" wF := Sta.start evF (Or.inl (hsets _ (List.mem_of_getElem? (i := 7) rfl)))
  have hc_7 : Jvm.Lit.constHeld s "com/example/keepout/keepout/match/PercentEncodingHexValuePinLaw" 7 := hcalls.1 ("com/example/keepout/keepout/match/PercentEncodingHexValuePinLaw", 7) (List.mem_of_getElem? (i := 0) rfl)
  have hc_9 : Jvm.Lit.constHeld s "com/example/keepout/keepout/match/PercentEncodingHexValuePinLaw" 9 := hcalls.1 ("com/example/keepout/keepout/match/PercentEncodingHexValuePinLaw", 9) (List.mem_of_getElem? (i := 1) rfl)
  obtain ⟨n, o, h1, h2, h3, v, L, rfl, ⟨hv, N⟩, hq⟩ := rm0 l s _ hw tables_1 i0 i1 wC wF s.heap s.heap.size (Nat.le_refl _) rfl (fun _ _ q => q) hcw S_C hC S_F hF hc_7 hc_9 p e ha hc hk s m _ below hf ((Spec.applies_iff_loose hf).mp happ).1 ⟨rfl, State.Warmed39.refl s, rfl, rfl⟩ trivial
  rw [own_law i0 i1] at hv
  subst hv
  refine ⟨n, _, h1, h2, h3, hpost _ _ _ _ _ _ ⟨Cond.after_iff.mpr rfl, Cond.after_iff.mpr (eq_i res_at (Term.int_eval (1)) rfl), trivial⟩ ⟨hq.1, hq.2.1, hq.2.2.1, (hq.2.2.2.sift fun y hy => Or.inr (N y hy)).mono (by decide) (by decide)⟩⟩
theorem main_1_1 : Claimed_1_1 := comes_1 fun _ _ _ _ _ _ h hF => ⟨h.1, hF⟩
theorem main_1_2 : Claimed_1_2 := comes_1 fun _ _ _ _ _ _ h hF => ⟨h.2.1, hF⟩
end Jvm.Pilot.@@N@@
namespace Jvm.Pilot.@@N@@
open Jvm Jvm.ClassFile Sem Op Lib Jvm.Free Jvm.Stand Jvm.Pilot.@@N@@.Jvm.D
/-! MADE BY PROGRAM (witnessworld.py) out of the Statement's table words and the real class files: 17 classes; the members and pool entries that the words name. The judged class is class 1, her method 1. -/
namespace start1
open Jvm.ClassFile
def u (s : String) : CpInfo := .utf8 (stringToUtf16 s)
/-- a pool by its gaps: so many unusable entries, then the entry; so many at the end -/
def gap : Nat → List CpInfo → List CpInfo
  | 0, r => r
  | n + 1, r => .unusable :: gap n r
def poolList (es : List (Nat × CpInfo)) (last : Nat) : List CpInfo := es.foldr (fun e r => gap e.1 (e.2 :: r)) (gap last [])
def pool (es : List (Nat × CpInfo)) (last : Nat) : Array CpInfo := ⟨poolList es last⟩
def fileOf (pool : Array CpInfo) (this : Nat) (attrs : Array Attribute := #[]) (ms : Array MethodInfo := #[]) (fl : Nat := 33) (sup : Nat := 0) (ifs : Array Nat := #[]) (fds : Array FieldInfo := #[]) : ClassFile where
  minorVersion := 0
  majorVersion := 65
  constantPool := pool
  accessFlags := fl
  thisClass := this
  superClass := sup
  interfaces := ifs
  fields := fds
  methods := ms
  attributes := attrs
def plain (name : String) (sup : Option ClassId) : Class where
  name := name
  kind := .ordinary
  loader := none
  accessFlags := 33
  super := sup
  interfaces := #[]
  cf := none
  fields := #[]
  methods := #[]
  instanceTypes := #[]
  staticTypes := #[]
  resolved := #[]
  callSites := []
  init := .initialized
  statics := none
  mirror := none

def pool0 : Array CpInfo := pool [(5, u "<init>"), (0, u "()V"), (1, .class_ 10), (1, u "java/lang/Object")] 113

def k0m0 : Method := { name := "<init>", desc := "()V", sig := { parameters := [], returnType := none }, accessFlags := 1, code := none }
/-- java/lang/Object -/
def k0 : Class := { plain "java/lang/Object" none with
  accessFlags := 33
  interfaces := #[]
  cf := some (fileOf pool0 8 #[] #[{ accessFlags := 1, nameIndex := 5, descriptorIndex := 6, attributes := #[] }] 33 0 #[] #[])
  fields := #[]
  methods := #[k0m0]
  instanceTypes := #[]
  staticTypes := #[]
  resolved := Array.replicate 124 none
  statics := none }

def pool1 : Array CpInfo := pool [(2, .class_ 4), (1, u "java/lang/Object"), (0, u "<init>"), (0, u "()V"), (0, .string 8), (0, u "0123456789ABCDEF"), (0, .string 10), (0, u "0123456789abcdef"), (0, .methodref 12 13), (0, .class_ 14), (0, .nameAndType 15 16), (0, u "java/lang/String"), (0, u "charAt"), (0, u "(I)C"), (0, .methodref 18 19), (0, .class_ 20), (0, .nameAndType 21 22), (0, u "com/example/keepout/keepout/match/PercentEncoding"), (0, u "hexValue"), (0, u "(C)I"), (0, .integer 65535), (0, .class_ 25), (0, u "com/example/keepout/keepout/match/PercentEncodingHexValuePinLaw"), (2, u "law"), (0, u "(II)Z")] 3

def k1m0 : Method := { name := "<init>", desc := "()V", sig := { parameters := [], returnType := none }, accessFlags := 2, code := none }
def k1c1 : Code := { maxStack := 2, maxLocals := 9, code := code, exceptionTable := #[], attributes := #[] }
def k1m1 : Method := { name := "law", desc := "(II)Z", sig := { parameters := [.int, .int], returnType := some .boolean }, accessFlags := 9, code := some k1c1 }
/-- com/example/keepout/keepout/match/PercentEncodingHexValuePinLaw -/
def k1 : Class := { plain "com/example/keepout/keepout/match/PercentEncodingHexValuePinLaw" (some 0) with
  accessFlags := 49
  interfaces := #[]
  cf := some (fileOf pool1 24 #[] #[{ accessFlags := 2, nameIndex := 5, descriptorIndex := 6, attributes := #[] }, { accessFlags := 9, nameIndex := 28, descriptorIndex := 29, attributes := #[] }] 49 2 #[] #[])
  fields := #[]
  methods := #[k1m0, k1m1]
  instanceTypes := #[]
  staticTypes := #[]
  resolved := Array.replicate 33 none
  statics := none }

def pool2 : Array CpInfo := pool [(1, .class_ 2), (0, u "java/io/Serializable"), (0, .class_ 4), (0, u "java/lang/Object")] 2

/-- java/io/Serializable -/
def k2 : Class := { plain "java/io/Serializable" (some 0) with
  accessFlags := 1537
  interfaces := #[]
  cf := some (fileOf pool2 1 #[] #[] 1537 3 #[] #[])
  fields := #[]
  methods := #[]
  instanceTypes := #[]
  staticTypes := #[]
  resolved := Array.replicate 7 none
  statics := none }

def pool3 : Array CpInfo := pool [(1, .class_ 2), (0, u "java/lang/Comparable"), (0, .class_ 4), (0, u "java/lang/Object")] 7

/-- java/lang/Comparable -/
def k3 : Class := { plain "java/lang/Comparable" (some 0) with
  accessFlags := 1537
  interfaces := #[]
  cf := some (fileOf pool3 1 #[] #[] 1537 3 #[] #[])
  fields := #[]
  methods := #[]
  instanceTypes := #[]
  staticTypes := #[]
  resolved := Array.replicate 12 none
  statics := none }

def pool4 : Array CpInfo := pool [(2, .class_ 4), (1, u "java/lang/CharSequence"), (42, .class_ 48), (0, u "java/lang/CharSequence$1CodePointIterator"), (10, .class_ 60), (0, u "java/lang/CharSequence$1CharIterator"), (5, .class_ 67), (0, u "java/lang/Object")] 63

/-- java/lang/CharSequence -/
def k4 : Class := { plain "java/lang/CharSequence" (some 0) with
  accessFlags := 1537
  interfaces := #[]
  cf := some (fileOf pool4 2 #[.nestMembers #[47, 59]] #[] 1537 66 #[] #[])
  fields := #[]
  methods := #[]
  instanceTypes := #[]
  staticTypes := #[]
  resolved := Array.replicate 131 none
  statics := none }

def pool5 : Array CpInfo := pool [(1, .class_ 2), (0, u "java/lang/constant/Constable"), (0, .class_ 4), (0, u "java/lang/Object")] 6

/-- java/lang/constant/Constable -/
def k5 : Class := { plain "java/lang/constant/Constable" (some 0) with
  accessFlags := 1537
  interfaces := #[]
  cf := some (fileOf pool5 1 #[] #[] 1537 3 #[] #[])
  fields := #[]
  methods := #[]
  instanceTypes := #[]
  staticTypes := #[]
  resolved := Array.replicate 11 none
  statics := none }

def pool6 : Array CpInfo := pool [(1, .class_ 2), (0, u "java/lang/constant/ConstantDesc"), (0, .class_ 4), (0, u "java/lang/Object")] 32

/-- java/lang/constant/ConstantDesc -/
def k6 : Class := { plain "java/lang/constant/ConstantDesc" (some 0) with
  accessFlags := 1537
  interfaces := #[]
  cf := some (fileOf pool6 1 #[] #[] 1537 3 #[] #[])
  fields := #[]
  methods := #[]
  instanceTypes := #[]
  staticTypes := #[]
  resolved := Array.replicate 37 none
  statics := none }

def pool7 : Array CpInfo := pool [(2, .class_ 4), (1, u "java/lang/Object"), (0, u "<init>"), (0, u "()V"), (2, .fieldref 10 11), (0, .class_ 12), (0, .nameAndType 13 14), (0, u "java/lang/String"), (0, u "value"), (0, u "[B"), (0, .fieldref 10 16), (0, .nameAndType 17 18), (0, u "coder"), (0, u "B"), (2, u "hash"), (0, u "I"), (2, u "hashIsZero"), (0, u "Z"), (11, .fieldref 10 39), (0, .nameAndType 40 26), (0, u "COMPACT_STRINGS"), (66, .class_ 109), (1, u "java/lang/StringLatin1"), (32, u "()Z"), (220, u "([BI)C"), (27, u "(II)V"), (35, u "(I)C"), (64, .methodref 10 493), (0, .nameAndType 494 142), (0, u "isLatin1"), (0, .methodref 107 496), (0, .nameAndType 497 363), (0, u "charAt"), (3, u "checkIndex"), (73, .class_ 576), (0, u "java/lang/CharSequence"), (22, u "CASE_INSENSITIVE_ORDER"), (0, u "Ljava/util/Comparator;"), (452, .fieldref 1054 1055), (0, .class_ 1056), (0, .nameAndType 1057 1058), (0, u "jdk/internal/util/Preconditions"), (0, u "SIOOBE_FORMATTER"), (0, u "Ljava/util/function/BiFunction;"), (0, .methodref 1054 1060), (0, .nameAndType 501 1061), (0, u "(IILjava/util/function/BiFunction;)I"), (39, u "serialPersistentFields"), (0, u "[Ljava/io/ObjectStreamField;"), (0, .class_ 1104), (0, u "java/lang/String$CaseInsensitiveComparator"), (1, .class_ 1107), (0, u "java/io/Serializable"), (0, .class_ 1109), (0, u "java/lang/Comparable"), (0, .class_ 1111), (0, u "java/lang/constant/Constable"), (0, .class_ 1113), (0, u "java/lang/constant/ConstantDesc"), (2, u "serialVersionUID"), (0, u "J"), (3, u "REPL"), (0, u "C"), (2, u "LATIN1"), (1, u "UTF16")] 323

def k7m0 : Method := { name := "<init>", desc := "()V", sig := { parameters := [], returnType := none }, accessFlags := 1, code := none }
def k7c1 : Code := { maxStack := 2, maxLocals := 2, code := jdk_42_method_56_code, exceptionTable := #[], attributes := #[] }
def k7m1 : Method := { name := "charAt", desc := "(I)C", sig := { parameters := [.int], returnType := some .char }, accessFlags := 1, code := some k7c1 }
def k7c2 : Code := { maxStack := 1, maxLocals := 1, code := jdk_42_method_154_code, exceptionTable := #[], attributes := #[] }
def k7m2 : Method := { name := "isLatin1", desc := "()Z", sig := { parameters := [], returnType := some .boolean }, accessFlags := 0, code := some k7c2 }
def k7c3 : Code := { maxStack := 3, maxLocals := 2, code := jdk_42_method_155_code, exceptionTable := #[], attributes := #[] }
def k7m3 : Method := { name := "checkIndex", desc := "(II)V", sig := { parameters := [.int, .int], returnType := none }, accessFlags := 8, code := some k7c3 }
/-- java/lang/String -/
def k7 : Class := { plain "java/lang/String" (some 0) with
  accessFlags := 49
  interfaces := #[2, 3, 4, 5, 6]
  cf := some (fileOf pool7 10 #[.nestMembers #[1103]] #[{ accessFlags := 1, nameIndex := 5, descriptorIndex := 6, attributes := #[] }, { accessFlags := 1, nameIndex := 497, descriptorIndex := 427, attributes := #[] }, { accessFlags := 0, nameIndex := 494, descriptorIndex := 142, attributes := #[] }, { accessFlags := 8, nameIndex := 501, descriptorIndex := 391, attributes := #[] }] 49 2 #[1106, 1108, 575, 1110, 1112] #[{ accessFlags := 18, nameIndex := 13, descriptorIndex := 14, attributes := #[] }, { accessFlags := 18, nameIndex := 17, descriptorIndex := 18, attributes := #[] }, { accessFlags := 2, nameIndex := 21, descriptorIndex := 22, attributes := #[] }, { accessFlags := 2, nameIndex := 25, descriptorIndex := 26, attributes := #[] }, { accessFlags := 26, nameIndex := 1116, descriptorIndex := 1117, attributes := #[] }, { accessFlags := 24, nameIndex := 40, descriptorIndex := 26, attributes := #[] }, { accessFlags := 26, nameIndex := 1101, descriptorIndex := 1102, attributes := #[] }, { accessFlags := 26, nameIndex := 1121, descriptorIndex := 1122, attributes := #[] }, { accessFlags := 25, nameIndex := 599, descriptorIndex := 600, attributes := #[] }, { accessFlags := 24, nameIndex := 1125, descriptorIndex := 18, attributes := #[] }, { accessFlags := 24, nameIndex := 1127, descriptorIndex := 18, attributes := #[] }])
  fields := #[{ name := "value", type := (.array .byte), accessFlags := 18, slot := 0, constantValue := 0 }, { name := "coder", type := .byte, accessFlags := 18, slot := 1, constantValue := 0 }, { name := "hash", type := .int, accessFlags := 2, slot := 2, constantValue := 0 }, { name := "hashIsZero", type := .boolean, accessFlags := 2, slot := 3, constantValue := 0 }, { name := "serialVersionUID", type := .long, accessFlags := 26, slot := 0, constantValue := 0 }, { name := "COMPACT_STRINGS", type := .boolean, accessFlags := 24, slot := 1, constantValue := 0 }, { name := "serialPersistentFields", type := (.array (.object "java/io/ObjectStreamField")), accessFlags := 26, slot := 2, constantValue := 0 }, { name := "REPL", type := .char, accessFlags := 26, slot := 3, constantValue := 0 }, { name := "CASE_INSENSITIVE_ORDER", type := (.object "java/util/Comparator"), accessFlags := 25, slot := 4, constantValue := 0 }, { name := "LATIN1", type := .byte, accessFlags := 24, slot := 5, constantValue := 0 }, { name := "UTF16", type := .byte, accessFlags := 24, slot := 6, constantValue := 0 }]
  methods := #[k7m0, k7m1, k7m2, k7m3]
  instanceTypes := #[(.array .byte), .byte, .int, .boolean]
  staticTypes := #[.long, .boolean, (.array (.object "java/io/ObjectStreamField")), .char, (.object "java/util/Comparator"), .byte, .byte]
  resolved := Array.replicate 1451 none
  statics := some 0 }

def pool8 : Array CpInfo := pool [(1, .class_ 2), (0, u "java/lang/String"), (1, .class_ 6), (1, u "java/lang/Object"), (0, u "<init>"), (0, u "()V"), (0, .methodref 1 10), (0, .nameAndType 11 12), (0, u "checkIndex"), (0, u "(II)V"), (1, .class_ 16), (1, u "java/lang/StringLatin1"), (36, u "([BI)C"), (67, u "$assertionsDisabled"), (0, u "Z"), (98, .class_ 223), (1, u "java/lang/StringLatin1$LinesSpliterator"), (28, u "charAt"), (137, .class_ 391), (0, u "java/lang/StringLatin1$CharsSpliterator")] 3

def k8m0 : Method := { name := "<init>", desc := "()V", sig := { parameters := [], returnType := none }, accessFlags := 0, code := none }
def k8c1 : Code := { maxStack := 2, maxLocals := 2, code := jdk_43_method_2_code, exceptionTable := #[], attributes := #[] }
def k8m1 : Method := { name := "charAt", desc := "([BI)C", sig := { parameters := [(.array .byte), .int], returnType := some .char }, accessFlags := 9, code := some k8c1 }
/-- java/lang/StringLatin1 -/
def k8 : Class := { plain "java/lang/StringLatin1" (some 0) with
  accessFlags := 48
  interfaces := #[]
  cf := some (fileOf pool8 14 #[.nestMembers #[390, 221]] #[{ accessFlags := 0, nameIndex := 7, descriptorIndex := 8, attributes := #[] }, { accessFlags := 9, nameIndex := 252, descriptorIndex := 53, attributes := #[] }] 48 4 #[] #[{ accessFlags := 4120, nameIndex := 121, descriptorIndex := 122, attributes := #[] }])
  fields := #[{ name := "$assertionsDisabled", type := .boolean, accessFlags := 4120, slot := 0, constantValue := 0 }]
  methods := #[k8m0, k8m1]
  instanceTypes := #[]
  staticTypes := #[.boolean]
  resolved := Array.replicate 395 none
  statics := none }

def pool9 : Array CpInfo := pool [(2, .class_ 4), (1, u "java/lang/Object"), (0, u "<init>"), (0, u "()V"), (17, .class_ 26), (1, u "jdk/internal/util/Preconditions"), (6, u "checkIndex"), (21, .class_ 56), (0, u "jdk/internal/util/Preconditions$4"), (57, .class_ 115), (0, u "jdk/internal/util/Preconditions$1"), (7, u "SIOOBE_FORMATTER"), (0, u "Ljava/util/function/BiFunction;"), (0, .class_ 126), (0, u "jdk/internal/util/Preconditions$2"), (3, u "AIOOBE_FORMATTER"), (0, .class_ 132), (0, u "jdk/internal/util/Preconditions$3"), (3, u "IOOBE_FORMATTER"), (41, u "(IILjava/util/function/BiFunction;)I")] 15

def k9m0 : Method := { name := "<init>", desc := "()V", sig := { parameters := [], returnType := none }, accessFlags := 1, code := none }
def k9c1 : Code := { maxStack := 3, maxLocals := 3, code := jdk_41_method_11_code, exceptionTable := #[], attributes := #[] }
def k9m1 : Method := { name := "checkIndex", desc := "(IILjava/util/function/BiFunction;)I", sig := { parameters := [.int, .int, (.object "java/util/function/BiFunction")], returnType := some .int }, accessFlags := 9, code := some k9c1 }
/-- jdk/internal/util/Preconditions -/
def k9 : Class := { plain "jdk/internal/util/Preconditions" (some 0) with
  accessFlags := 33
  interfaces := #[]
  cf := some (fileOf pool9 24 #[.nestMembers #[55, 131, 125, 114]] #[{ accessFlags := 1, nameIndex := 5, descriptorIndex := 6, attributes := #[] }, { accessFlags := 9, nameIndex := 33, descriptorIndex := 178, attributes := #[] }] 33 2 #[] #[{ accessFlags := 25, nameIndex := 123, descriptorIndex := 124, attributes := #[] }, { accessFlags := 25, nameIndex := 130, descriptorIndex := 124, attributes := #[] }, { accessFlags := 25, nameIndex := 136, descriptorIndex := 124, attributes := #[] }])
  fields := #[{ name := "SIOOBE_FORMATTER", type := (.object "java/util/function/BiFunction"), accessFlags := 25, slot := 0, constantValue := 0 }, { name := "AIOOBE_FORMATTER", type := (.object "java/util/function/BiFunction"), accessFlags := 25, slot := 1, constantValue := 0 }, { name := "IOOBE_FORMATTER", type := (.object "java/util/function/BiFunction"), accessFlags := 25, slot := 2, constantValue := 0 }]
  methods := #[k9m0, k9m1]
  instanceTypes := #[]
  staticTypes := #[(.object "java/util/function/BiFunction"), (.object "java/util/function/BiFunction"), (.object "java/util/function/BiFunction")]
  resolved := Array.replicate 194 none
  statics := some 1 }

def pool10 : Array CpInfo := pool [(2, .class_ 4), (1, u "java/lang/Object"), (0, u "<init>"), (0, u "()V"), (11, .class_ 20), (1, u "com/example/keepout/keepout/match/PercentEncoding"), (47, u "hexValue"), (0, u "(C)I"), (83, u "KEPT_RAW"), (0, u "[Z"), (10, u "UNRESERVED"), (0, u "Ljava/lang/String;"), (1, u "RESERVED_KEPT_RAW"), (2, u "HEX_DIGITS")] 27

def k10m0 : Method := { name := "<init>", desc := "()V", sig := { parameters := [], returnType := none }, accessFlags := 2, code := none }
def k10c1 : Code := { maxStack := 2, maxLocals := 2, code := prog_27_method_9_code, exceptionTable := #[], attributes := #[] }
def k10m1 : Method := { name := "hexValue", desc := "(C)I", sig := { parameters := [.char], returnType := some .int }, accessFlags := 8, code := some k10c1 }
/-- com/example/keepout/keepout/match/PercentEncoding -/
def k10 : Class := { plain "com/example/keepout/keepout/match/PercentEncoding" (some 0) with
  accessFlags := 48
  interfaces := #[]
  cf := some (fileOf pool10 18 #[] #[{ accessFlags := 2, nameIndex := 5, descriptorIndex := 6, attributes := #[] }, { accessFlags := 8, nameIndex := 68, descriptorIndex := 69, attributes := #[] }] 48 2 #[] #[{ accessFlags := 26, nameIndex := 165, descriptorIndex := 166, attributes := #[] }, { accessFlags := 26, nameIndex := 168, descriptorIndex := 166, attributes := #[] }, { accessFlags := 26, nameIndex := 171, descriptorIndex := 166, attributes := #[] }, { accessFlags := 26, nameIndex := 153, descriptorIndex := 154, attributes := #[] }])
  fields := #[{ name := "UNRESERVED", type := (.object "java/lang/String"), accessFlags := 26, slot := 0, constantValue := 0 }, { name := "RESERVED_KEPT_RAW", type := (.object "java/lang/String"), accessFlags := 26, slot := 1, constantValue := 0 }, { name := "HEX_DIGITS", type := (.object "java/lang/String"), accessFlags := 26, slot := 2, constantValue := 0 }, { name := "KEPT_RAW", type := (.array .boolean), accessFlags := 26, slot := 3, constantValue := 0 }]
  methods := #[k10m0, k10m1]
  instanceTypes := #[]
  staticTypes := #[(.object "java/lang/String"), (.object "java/lang/String"), (.object "java/lang/String"), (.array .boolean)]
  resolved := Array.replicate 199 none
  statics := none }

def pool11 : Array CpInfo := pool [(9, u "<init>"), (6, .class_ 18), (1, u "java/lang/Object"), (0, u "()V"), (1, .class_ 23), (1, u "jdk/internal/util/ArraysSupport"), (0, u "LOG2_ARRAY_LONG_INDEX_SCALE"), (0, u "I"), (2, u "U"), (0, u "Ljdk/internal/misc/Unsafe;"), (8, u "BIG_ENDIAN"), (0, u "Z"), (8, u "LOG2_BYTE_BIT_SIZE"), (4, u "LOG2_ARRAY_INT_INDEX_SCALE"), (54, u "JLA"), (0, u "Ljdk/internal/access/JavaLangAccess;"), (11, u "LOG2_ARRAY_BOOLEAN_INDEX_SCALE"), (9, u "LOG2_ARRAY_BYTE_INDEX_SCALE"), (5, u "LOG2_ARRAY_CHAR_INDEX_SCALE"), (5, u "LOG2_ARRAY_SHORT_INDEX_SCALE"), (18, u "LOG2_ARRAY_FLOAT_INDEX_SCALE"), (24, u "LOG2_ARRAY_DOUBLE_INDEX_SCALE"), (89, u "T_BOOLEAN"), (2, u "T_CHAR"), (1, u "T_FLOAT"), (1, u "T_DOUBLE"), (1, u "T_BYTE"), (1, u "T_SHORT"), (1, u "T_INT"), (1, u "T_LONG"), (1, u "SOFT_MAX_ARRAY_LENGTH")] 83

def k11m0 : Method := { name := "<init>", desc := "()V", sig := { parameters := [], returnType := none }, accessFlags := 2, code := none }
/-- jdk/internal/util/ArraysSupport -/
def k11 : Class := { plain "jdk/internal/util/ArraysSupport" (some 0) with
  accessFlags := 33
  interfaces := #[]
  cf := some (fileOf pool11 21 #[] #[{ accessFlags := 2, nameIndex := 9, descriptorIndex := 19, attributes := #[] }] 33 16 #[] #[{ accessFlags := 24, nameIndex := 28, descriptorIndex := 29, attributes := #[] }, { accessFlags := 26, nameIndex := 38, descriptorIndex := 39, attributes := #[] }, { accessFlags := 25, nameIndex := 121, descriptorIndex := 25, attributes := #[] }, { accessFlags := 25, nameIndex := 131, descriptorIndex := 25, attributes := #[] }, { accessFlags := 25, nameIndex := 137, descriptorIndex := 25, attributes := #[] }, { accessFlags := 25, nameIndex := 143, descriptorIndex := 25, attributes := #[] }, { accessFlags := 25, nameIndex := 53, descriptorIndex := 25, attributes := #[] }, { accessFlags := 25, nameIndex := 24, descriptorIndex := 25, attributes := #[] }, { accessFlags := 25, nameIndex := 162, descriptorIndex := 25, attributes := #[] }, { accessFlags := 25, nameIndex := 187, descriptorIndex := 25, attributes := #[] }, { accessFlags := 26, nameIndex := 48, descriptorIndex := 25, attributes := #[] }, { accessFlags := 25, nameIndex := 277, descriptorIndex := 25, attributes := #[] }, { accessFlags := 25, nameIndex := 280, descriptorIndex := 25, attributes := #[] }, { accessFlags := 25, nameIndex := 282, descriptorIndex := 25, attributes := #[] }, { accessFlags := 25, nameIndex := 284, descriptorIndex := 25, attributes := #[] }, { accessFlags := 25, nameIndex := 286, descriptorIndex := 25, attributes := #[] }, { accessFlags := 25, nameIndex := 288, descriptorIndex := 25, attributes := #[] }, { accessFlags := 25, nameIndex := 290, descriptorIndex := 25, attributes := #[] }, { accessFlags := 25, nameIndex := 292, descriptorIndex := 25, attributes := #[] }, { accessFlags := 26, nameIndex := 108, descriptorIndex := 109, attributes := #[] }, { accessFlags := 25, nameIndex := 294, descriptorIndex := 25, attributes := #[] }])
  fields := #[{ name := "U", type := (.object "jdk/internal/misc/Unsafe"), accessFlags := 24, slot := 0, constantValue := 0 }, { name := "BIG_ENDIAN", type := .boolean, accessFlags := 26, slot := 1, constantValue := 0 }, { name := "LOG2_ARRAY_BOOLEAN_INDEX_SCALE", type := .int, accessFlags := 25, slot := 2, constantValue := 0 }, { name := "LOG2_ARRAY_BYTE_INDEX_SCALE", type := .int, accessFlags := 25, slot := 3, constantValue := 0 }, { name := "LOG2_ARRAY_CHAR_INDEX_SCALE", type := .int, accessFlags := 25, slot := 4, constantValue := 0 }, { name := "LOG2_ARRAY_SHORT_INDEX_SCALE", type := .int, accessFlags := 25, slot := 5, constantValue := 0 }, { name := "LOG2_ARRAY_INT_INDEX_SCALE", type := .int, accessFlags := 25, slot := 6, constantValue := 0 }, { name := "LOG2_ARRAY_LONG_INDEX_SCALE", type := .int, accessFlags := 25, slot := 7, constantValue := 0 }, { name := "LOG2_ARRAY_FLOAT_INDEX_SCALE", type := .int, accessFlags := 25, slot := 8, constantValue := 0 }, { name := "LOG2_ARRAY_DOUBLE_INDEX_SCALE", type := .int, accessFlags := 25, slot := 9, constantValue := 0 }, { name := "LOG2_BYTE_BIT_SIZE", type := .int, accessFlags := 26, slot := 10, constantValue := 0 }, { name := "T_BOOLEAN", type := .int, accessFlags := 25, slot := 11, constantValue := 0 }, { name := "T_CHAR", type := .int, accessFlags := 25, slot := 12, constantValue := 0 }, { name := "T_FLOAT", type := .int, accessFlags := 25, slot := 13, constantValue := 0 }, { name := "T_DOUBLE", type := .int, accessFlags := 25, slot := 14, constantValue := 0 }, { name := "T_BYTE", type := .int, accessFlags := 25, slot := 15, constantValue := 0 }, { name := "T_SHORT", type := .int, accessFlags := 25, slot := 16, constantValue := 0 }, { name := "T_INT", type := .int, accessFlags := 25, slot := 17, constantValue := 0 }, { name := "T_LONG", type := .int, accessFlags := 25, slot := 18, constantValue := 0 }, { name := "JLA", type := (.object "jdk/internal/access/JavaLangAccess"), accessFlags := 26, slot := 19, constantValue := 0 }, { name := "SOFT_MAX_ARRAY_LENGTH", type := .int, accessFlags := 25, slot := 20, constantValue := 0 }]
  methods := #[k11m0]
  instanceTypes := #[]
  staticTypes := #[(.object "jdk/internal/misc/Unsafe"), .boolean, .int, .int, .int, .int, .int, .int, .int, .int, .int, .int, .int, .int, .int, .int, .int, .int, .int, (.object "jdk/internal/access/JavaLangAccess"), .int]
  resolved := Array.replicate 378 none
  statics := none }

def pool12 : Array CpInfo := pool [(1, u "java/lang/Cloneable"), (0, .class_ 1), (0, u "java/lang/Object"), (0, .class_ 3)] 3

/-- java/lang/Cloneable -/
def k12 : Class := { plain "java/lang/Cloneable" (some 0) with
  accessFlags := 1537
  interfaces := #[]
  cf := some (fileOf pool12 2 #[] #[] 1537 4 #[] #[])
  fields := #[]
  methods := #[]
  instanceTypes := #[]
  staticTypes := #[]
  resolved := Array.replicate 8 none
  statics := none }

/-- the primitive byte -/
def k13 : Class := { plain "byte" none with kind := .primitive 'B', accessFlags := 0x411 }
/-- [B -/
def k14 : Class := { plain "[B" (some 0) with kind := .array 13 .byte, interfaces := #[12, 2], accessFlags := 1041 }

/-- the primitive int -/
def k15 : Class := { plain "int" none with kind := .primitive 'I', accessFlags := 0x411 }
/-- [I -/
def k16 : Class := { plain "[I" (some 0) with kind := .array 15 .int, interfaces := #[12, 2], accessFlags := 1041 }

def heap : Heap := #[{ cls := 7, slots := #[.long 0, .int 1, .null, .int 0, .null, .int 0, .int 0], vm := .statics 7 },
  { cls := 9, slots := #[.null, .null, .null], vm := .statics 9 }]
def classes : Array Class := #[k0, k1, k2, k3, k4, k5, k6, k7, k8, k9, k10, k11, k12, k13, k14, k15, k16]
def interned : List (Array UInt16 × Addr) := []
def slotsUsed : Nat := 10
def theMethod : MethodId := ⟨1, 1⟩
def args0 : Array Value := #[.int 5, .int 7]
def aboutOver (below : List Frame) : State where
  vm := { classes := classes, interned := interned.toArray }
  heap := heap
  slotsUsed := slotsUsed
  threads := #[{ frames := .invoking theMethod args0 :: below }]
def below0 : List Frame := [.native { method := ⟨0, 0⟩, args := #[] }]
def about1 : State := aboutOver below0
def p0 : Program := .bare "" "" ""
def e0 : Env := launch0.env 0 0 0
theorem w_frames : about1.frames = Frame.invoking theMethod args0 :: below0 := rfl
set_option maxRecDepth 65536 in
theorem w_args : argsFit about1.vm theMethod args0 = true := by decide +kernel
set_option maxRecDepth 65536 in
theorem w_heap : heapFits about1 = true := by decide +kernel
set_option maxRecDepth 65536 in
theorem w_runnable : about1.curStatus? = some .runnable := by decide +kernel
set_option maxRecDepth 65536 in
theorem w_alone : about1.alone = true := by decide +kernel
set_option maxRecDepth 65536 in
theorem w_named : about1.methodNamed? x = some theMethod := by decide +kernel
set_option maxRecDepth 65536 in
theorem w_hears : about1.hears theMethod below0 = true := by decide +kernel
set_option maxRecDepth 65536 in
theorem w_ripe : about1.ripe theMethod args0 below0 = true := by decide +kernel
theorem w_running : about1.status = .running := rfl
set_option maxRecDepth 65536 in
theorem w_room : about1.hasRoom e0.platform room_1 = true :=
  launch0.hasRoom_least _ room_1 (by decide +kernel) (by decide +kernel) (by decide +kernel) (by decide +kernel) (by decide +kernel) (by decide +kernel)
theorem allAtoms_all (ts : List Jvm.Cond) (a : Array Jvm.Value) (st : Jvm.State) : (allAtoms ts).before a st = ts.all (fun c => c.before a st) := by
  induction ts with
  | nil => rfl
  | cons c t ih =>
    show (Jvm.Cond.and c (allAtoms t)).before a st = _
    rw [Jvm.Cond.before_and, ih, List.all_cons]
def words1 : List Jvm.Cond := Jvm.Cond.code x code maxLocals ret :: tables_1
/-- a 'code' word, met by the world's own term for the bytes: nothing is compared byte by byte -/
theorem code_word {y : MethodName} {bytes : ByteArray} {mx : Nat} {rt : Option FieldType} {a : Array Value} {s : State} {m : MethodId} {meth : Method} {c : Code} (h1 : s.methodNamed? y = some m) (h2 : s.vm.method? m = some meth) (h3 : meth.code = some c) (h4 : c.code = bytes)
    (h5 : (c.maxLocals == mx && c.exceptionTable.isEmpty && decide (c.maxStack ≤ mostOperands) && decide (meth.sig.returnType = rt) && !meth.locks && decide (parseMethodDescriptor y.desc = some meth.sig)) = true) : (Jvm.Cond.code y bytes mx rt).before a s = true := by
  simp only [Bool.and_eq_true, beq_iff_eq, Bool.not_eq_true', decide_eq_true_eq] at h5
  obtain ⟨⟨⟨⟨⟨g1, g2⟩, g3⟩, g4⟩, g5⟩, g6⟩ := h5
  simp [Cond.before, Cond.holds, Cond.value, h1, h2, h3, h4, g1, g2, g3, g4, g5, g6]
def isCode : Jvm.Cond → Bool
  | .code _ _ _ _ => true
  | _ => false
theorem all_split {L : List Jvm.Cond} {P : Jvm.Cond → Bool} (h1 : L.all (fun c => isCode c || P c) = true) (h2 : ∀ c ∈ L.filter isCode, P c = true) : L.all P = true := by
  refine List.all_eq_true.mpr fun c hc => ?_
  have h := List.all_eq_true.mp h1 c hc
  rcases Bool.eq_false_or_eq_true (isCode c) with hi | hi
  · exact h2 c (List.mem_filter.mpr ⟨hc, hi⟩)
  · simpa [hi] using h
set_option maxRecDepth 65536 in
theorem w_c0 : (Jvm.Cond.code x code maxLocals ret).before args0 about1 = true := code_word (m := ⟨1, 1⟩) (meth := k1m1) (c := k1c1) (by decide +kernel) rfl rfl rfl (by decide +kernel)
set_option maxRecDepth 65536 in
theorem w_c1 : (Jvm.Cond.code ({ cls := "java/lang/String", name := "charAt", desc := "(I)C" } : Jvm.MethodName) jdk_42_method_56_code (2 : Nat) (Option.some Jvm.ClassFile.FieldType.char)).before args0 about1 = true := code_word (m := ⟨7, 1⟩) (meth := k7m1) (c := k7c1) (by decide +kernel) rfl rfl rfl (by decide +kernel)
set_option maxRecDepth 65536 in
theorem w_c2 : (Jvm.Cond.code ({ cls := "java/lang/String", name := "isLatin1", desc := "()Z" } : Jvm.MethodName) jdk_42_method_154_code (1 : Nat) (Option.some Jvm.ClassFile.FieldType.boolean)).before args0 about1 = true := code_word (m := ⟨7, 2⟩) (meth := k7m2) (c := k7c2) (by decide +kernel) rfl rfl rfl (by decide +kernel)
set_option maxRecDepth 65536 in
theorem w_c3 : (Jvm.Cond.code ({ cls := "java/lang/StringLatin1", name := "charAt", desc := "([BI)C" } : Jvm.MethodName) jdk_43_method_2_code (2 : Nat) (Option.some Jvm.ClassFile.FieldType.char)).before args0 about1 = true := code_word (m := ⟨8, 1⟩) (meth := k8m1) (c := k8c1) (by decide +kernel) rfl rfl rfl (by decide +kernel)
set_option maxRecDepth 65536 in
theorem w_c4 : (Jvm.Cond.code ({ cls := "java/lang/String", name := "checkIndex", desc := "(II)V" } : Jvm.MethodName) jdk_42_method_155_code (2 : Nat) (Option.none : Option Jvm.ClassFile.FieldType)).before args0 about1 = true := code_word (m := ⟨7, 3⟩) (meth := k7m3) (c := k7c3) (by decide +kernel) rfl rfl rfl (by decide +kernel)
set_option maxRecDepth 65536 in
theorem w_c5 : (Jvm.Cond.code ({ cls := "jdk/internal/util/Preconditions", name := "checkIndex", desc := "(IILjava/util/function/BiFunction;)I" } : Jvm.MethodName) jdk_41_method_11_code (3 : Nat) (Option.some Jvm.ClassFile.FieldType.int)).before args0 about1 = true := code_word (m := ⟨9, 1⟩) (meth := k9m1) (c := k9c1) (by decide +kernel) rfl rfl rfl (by decide +kernel)
set_option maxRecDepth 65536 in
theorem w_c6 : (Jvm.Cond.code ({ cls := "com/example/keepout/keepout/match/PercentEncoding", name := "hexValue", desc := "(C)I" } : Jvm.MethodName) prog_27_method_9_code (2 : Nat) (Option.some Jvm.ClassFile.FieldType.int)).before args0 about1 = true := code_word (m := ⟨10, 1⟩) (meth := k10m1) (c := k10c1) (by decide +kernel) rfl rfl rfl (by decide +kernel)
def codes1 : List Jvm.Cond := [Jvm.Cond.code x code maxLocals ret, Jvm.Cond.code ({ cls := "java/lang/String", name := "charAt", desc := "(I)C" } : Jvm.MethodName) jdk_42_method_56_code (2 : Nat) (Option.some Jvm.ClassFile.FieldType.char), Jvm.Cond.code ({ cls := "java/lang/String", name := "isLatin1", desc := "()Z" } : Jvm.MethodName) jdk_42_method_154_code (1 : Nat) (Option.some Jvm.ClassFile.FieldType.boolean), Jvm.Cond.code ({ cls := "java/lang/StringLatin1", name := "charAt", desc := "([BI)C" } : Jvm.MethodName) jdk_43_method_2_code (2 : Nat) (Option.some Jvm.ClassFile.FieldType.char), Jvm.Cond.code ({ cls := "java/lang/String", name := "checkIndex", desc := "(II)V" } : Jvm.MethodName) jdk_42_method_155_code (2 : Nat) (Option.none : Option Jvm.ClassFile.FieldType), Jvm.Cond.code ({ cls := "jdk/internal/util/Preconditions", name := "checkIndex", desc := "(IILjava/util/function/BiFunction;)I" } : Jvm.MethodName) jdk_41_method_11_code (3 : Nat) (Option.some Jvm.ClassFile.FieldType.int), Jvm.Cond.code ({ cls := "com/example/keepout/keepout/match/PercentEncoding", name := "hexValue", desc := "(C)I" } : Jvm.MethodName) prog_27_method_9_code (2 : Nat) (Option.some Jvm.ClassFile.FieldType.int)]
set_option maxRecDepth 65536 in
theorem codes_eq : words1.filter isCode = codes1 := rfl
theorem w_codes : ∀ c ∈ words1.filter isCode, c.before args0 about1 = true := by
  rw [codes_eq]
  intro c hc
  simp only [codes1, List.mem_cons, List.not_mem_nil, or_false] at hc
  rcases hc with rfl | rfl | rfl | rfl | rfl | rfl | rfl
  · exact w_c0
  · exact w_c1
  · exact w_c2
  · exact w_c3
  · exact w_c4
  · exact w_c5
  · exact w_c6
set_option maxRecDepth 65536 in
theorem w_t1 : (words1.take 24).all (fun c => isCode c || c.before args0 about1) = true := by decide +kernel
set_option maxRecDepth 65536 in
theorem w_t2 : (words1.drop 24).all (fun c => isCode c || c.before args0 about1) = true := by decide +kernel
theorem w_tables : (allAtoms (Jvm.Cond.code x code maxLocals ret :: tables_1)).before args0 about1 = true := by
  rw [allAtoms_all]
  show words1.all (fun c => c.before args0 about1) = true
  refine all_split ?_ w_codes
  rw [← List.take_append_drop 24 words1, List.all_append, w_t1, w_t2]
  rfl
set_option maxRecDepth 65536 in
theorem w_rest : rest_1_c.before args0 about1 = true := by decide +kernel
set_option maxRecDepth 65536 in
theorem w_case : (Jvm.Cond.and given_1 narrow_1).before args0 about1 = true := by decide +kernel
set_option maxRecDepth 65536 in
theorem w_consts : constsHeld consts_1 about1 := Jvm.Lit.constsHeldB_iff.mp (by decide +kernel)
theorem w_applies : (headSpec (Jvm.Cond.code x code maxLocals ret :: tables_1) room_1).applies x e0.platform about1 = true :=
  (Spec.applies_iff w_frames).mpr ⟨w_running, w_runnable, w_alone, w_named, w_hears, w_ripe, w_room, w_tables⟩
theorem atStart : AtStart classFile x code maxLocals ret World_1 tables_1 room_1 Calls_1 rest_1 Pre_1 launch0 p0 e0 about1 theMethod args0 below0 :=
  ⟨lists_1, trivial, launch0.admits_env _ _ _, launch0.least_env, fairChoices_fair.cas, fairChoices_fair.clock, w_frames, w_args, w_heap, w_applies, ⟨w_consts, trivial⟩, w_rest, w_case⟩
end start1
theorem witness_1 : WitnessClaimed_1 := ⟨start1.p0, start1.e0, start1.about1, start1.theMethod, start1.args0, start1.below0, start1.atStart⟩
end Jvm.Pilot.@@N@@

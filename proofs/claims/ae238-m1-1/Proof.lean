import JvmDerived
import JvmDerived.Pilot.@@N@@Statement
import JvmDerived.Pilot.@@N@@Code
set_option linter.unusedVariables false
set_option linter.unusedSimpArgs false
namespace Jvm.RoadKit
open Sem ClassFile Op Lib Jvm.Stand Jvm.Free Jvm.LawKit
section New
variable {p : Program} {l : Launch} {e : Env} {R : Room} {s : State} {m : MethodId} {args : Array Value} {below : List Frame} {meth : Method} {c : Code} {T : State} {locs : List Loc} {cells slots : Nat}
theorem retI (X : Stand p l e R s m args below meth c T locs cells slots) (hx : p.tables.exec = Jvm.exec) {pc : Nat} {Ls : Array Slot} {z : Int32} {rest : List Value} (hret : meth.sig.returnType = some .int) (hd : decode c.code pc = .ok (.ireturn, 1)) {fs : List Frame}
    (hl : ∀ (f : JFrame) (acts : List Action), f.method = m → f.locked = none → f.entered = [] → (doReturn e (T.setTop f) acts (some (.int z))).1 = T.setFrames fs) : Steps p.tables e below (T.setTop (mkF m pc Ls (.int z :: rest))) (T.setFrames fs) := by
  have hm' : T.vm.method? m = some meth := X.method'
  have hn : narrow .int (.int z) = .int z := rfl
  show Steps p.tables e below (T.setTop { method := m, pc := pc, locals := Ls, stack := _ :: rest, locked := none }) _
  jvm_step X.here [X.here.top, hx, hd, hm', hret, hn]
  first | (intro acts; rw [hl _ acts rfl rfl rfl]) | rw [hl _ _ rfl rfl rfl]
  exact Steps.refl _
theorem retJ (X : Stand p l e R s m args below meth c T locs cells slots) (hx : p.tables.exec = Jvm.exec) {pc : Nat} {Ls : Array Slot} {z : Int64} {rest : List Value} (hret : meth.sig.returnType = some .long) (hd : decode c.code pc = .ok (.lreturn, 1)) {fs : List Frame}
    (hl : ∀ (f : JFrame) (acts : List Action), f.method = m → f.locked = none → f.entered = [] → (doReturn e (T.setTop f) acts (some (.long z))).1 = T.setFrames fs) : Steps p.tables e below (T.setTop (mkF m pc Ls (.long z :: rest))) (T.setFrames fs) := by
  have hm' : T.vm.method? m = some meth := X.method'
  have hn : narrow .long (.long z) = .long z := rfl
  show Steps p.tables e below (T.setTop { method := m, pc := pc, locals := Ls, stack := _ :: rest, locked := none }) _
  jvm_step X.here [X.here.top, hx, hd, hm', hret, hn]
  first | (intro acts; rw [hl _ acts rfl rfl rfl]) | rw [hl _ _ rfl rfl rfl]
  exact Steps.refl _
end New
end Jvm.RoadKit
@@BLOCK:NumsL.lean.txt@@
namespace Jvm.Pilot.@@N@@
open Jvm Jvm.ClassFile Sem Op Lib Jvm.Free Jvm.Stand Jvm.LawKit Jvm.RoadKit Bundle Jvm.Pilot.@@N@@.Jvm.D
/-- the run comes from A to B -/
abbrev own_Go (p : Program) (e : Env) (below : List Frame) (A B : State) : Prop := ∀ t, Steps p.tables e below B t → Steps p.tables e below A t
/-! byte arrays as plain functions of the place -/
def own_up (B : Nat → Int32) (i : Nat) (v : Int32) : Nat → Int32 := fun j => if j = i then v else B j
def own_By (Z : State) (h : Heap) (a : Addr) (n : Nat) (B : Nat → Int32) : Prop := ∃ c : Cell, Arr Z h a c .byte ∧ c.slots.size = n ∧ ∀ i, i < n → c.slots[i]? = some (.int (B i))
section By
variable {Z : State} {h h' : Heap} {a b : Addr} {n sl : Nat} {B : Nat → Int32} {v : Value} {ws : List Addr}
theorem own_By.lt (F : own_By Z h a n B) : a < h.size := by obtain ⟨c, A, -⟩ := F; exact A.lt
theorem own_By.ext (F : own_By Z h a n B) (E : Ext h h') : own_By Z h' a n B := by obtain ⟨c, A, r⟩ := F; exact ⟨c, A.ext E, r⟩
theorem own_By.other (F : own_By Z h a n B) (W : Wr h h' b sl v) (q : a ≠ b) : own_By Z h' a n B := by obtain ⟨c, A, r⟩ := F; exact ⟨c, A.other W q, r⟩
theorem own_By.keep (F : own_By Z h a n B) (K : Keep h h' ws) (q : a ∉ ws) : own_By Z h' a n B := by obtain ⟨c, A, r⟩ := F; exact ⟨c, ⟨K.2.1 a c A.1 q, A.2⟩, r⟩
theorem own_By.new {k : ClassId} {z : Int32} (A : Arr Z h a (newA k .byte z) .byte) (hz : z.toNatClampNeg = n) : own_By Z h a n (fun _ => 0) :=
  ⟨_, A, by rw [sz_new, hz], fun i hi => by simp [newA, hz, hi, defaultValue]⟩
theorem own_By.set (F : own_By Z h a n B) {i : Nat} {x : Int32} (W : Wr h h' a i (.int x)) (hi : i < n) : own_By Z h' a n (own_up B i x) := by
  obtain ⟨c, A, S, H⟩ := F
  refine ⟨c.setSlot i (.int x), A.same W, by rw [sz_set, S], fun j hj => ?_⟩
  unfold own_up
  by_cases e : j = i
  · subst e; rw [if_pos rfl]; simp [Cell.setSlot, S, hj]
  · rw [if_neg e]; show (c.slots.setIfInBounds i (.int x))[j]? = _; rw [Array.getElem?_setIfInBounds_ne (Ne.symm e)]; exact H j hj
variable {p : Program} {l : Launch} {e : Env} {R : Room} {s : State} {m : MethodId} {args : Array Value} {below : List Frame} {meth : Method} {c : Code} {T : State} {locs : List Loc} {cells slots : Nat}
theorem own_bst (X : Stand p l e R s m args below meth c T locs cells slots) (hx : p.tables.exec = Jvm.exec) (hZ : Z.Warmed39 s.vm) (eT : T.heap = h) (F : own_By Z h a n B) {j x : Int32} (hj0 : ¬ j < 0) (hj1 : j.toNatClampNeg < n) {g : JFrame} (hg : g.method = m) {rest : List Value} (hs : g.stack = .int x :: .int j :: .ref a :: rest) (hd : decode c.code g.pc = .ok (.bastore, 1)) :
    ∃ T' h', Stand p l e R s m args below meth c T' (locs ++ [⟨a, j.toNatClampNeg⟩]) cells slots ∧ T'.heap = h' ∧ Wr h h' a j.toNatClampNeg (.int x.toInt8.toInt32) ∧ own_By Z h' a n (own_up B j.toNatClampNeg x.toInt8.toInt32) ∧ ∀ target, Steps p.tables e below (T'.setTop { g with pc := g.pc + 1, stack := rest }) target → Steps p.tables e below (T.setTop g) target := by
  obtain ⟨cl, A, S, H⟩ := F
  obtain ⟨T', h', X', e', W, st⟩ := stB X hx hZ eT A (j := j) (fun q => q.elim hj0 fun r => absurd hj1 (by rw [← S]; omega)) hg hs hd
  exact ⟨T', h', X', e', W, own_By.set ⟨cl, A, S, H⟩ W hj1, st⟩
theorem own_bld (X : Stand p l e R s m args below meth c T locs cells slots) (hx : p.tables.exec = Jvm.exec) (hZ : Z.Warmed39 s.vm) (eT : T.heap = h) (F : own_By Z h a n B) {j : Int32} (hj0 : ¬ j < 0) (hj1 : j.toNatClampNeg < n) {g : JFrame} (hg : g.method = m) {rest : List Value} (hs : g.stack = .int j :: .ref a :: rest) (hd : decode c.code g.pc = .ok (.baload, 1)) :
    ∀ target, Steps p.tables e below (T.setTop { g with pc := g.pc + 1, stack := .int (B j.toNatClampNeg) :: rest }) target → Steps p.tables e below (T.setTop g) target := by
  obtain ⟨cl, A, S, H⟩ := F
  intro target hr
  exact X.baloadBytes hx (j := j) (v := .int (B j.toNatClampNeg)) (by rw [eT]; exact A.1) (State.isArrayOf_alike hZ.alike A.2.1) A.2.2 (fun q => q.elim hj0 fun r => absurd hj1 (by rw [← S]; omega)) (H _ hj1) hg hs hd target hr
end By

theorem own_next {i p3 : Int32} {k : Nat} (h : 0 ≤ i.toInt ∧ i.toInt + ((k + 1 : Nat) : Int) = p3.toInt ∧ p3.toInt ≤ 6) : 0 ≤ (i + (1 : Int32)).toInt ∧ (i + (1 : Int32)).toInt + (k : Int) = p3.toInt ∧ p3.toInt ≤ 6 := by
  have e1 : (1 : Int32).toInt = 1 := rfl
  rw [Jvm.Kit.i32_add (by omega) (by omega)]; omega
theorem own_first {p2 p3 : Int32} (h : 0 ≤ p2.toInt ∧ p2.toInt ≤ p3.toInt ∧ p3.toInt ≤ 6) : 0 ≤ p2.toInt ∧ p2.toInt + (((p3.toInt - p2.toInt).toNat : Nat) : Int) = p3.toInt ∧ p3.toInt ≤ 6 := by omega
theorem own_out {i p3 : Int32} (h : 0 ≤ i.toInt ∧ i.toInt + ((0 : Nat) : Int) = p3.toInt ∧ p3.toInt ≤ 6) : ¬ i < p3 := by rw [Int32.lt_iff_toInt_lt]; omega
theorem own_in {i p3 : Int32} {k : Nat} (h : 0 ≤ i.toInt ∧ i.toInt + ((k + 1 : Nat) : Int) = p3.toInt ∧ p3.toInt ≤ 6) : i < p3 := by rw [Int32.lt_iff_toInt_lt]; omega
theorem own_at {i p3 : Int32} {k : Nat} (h : 0 ≤ i.toInt ∧ i.toInt + ((k + 1 : Nat) : Int) = p3.toInt ∧ p3.toInt ≤ 6) : ¬ i < 0 ∧ i.toNatClampNeg < 6 := by
  refine ⟨by rw [Int32.lt_iff_toInt_lt, show (0 : Int32).toInt = 0 from rfl]; omega, ?_⟩
  show i.toInt.toNat < 6; omega
theorem own_os5 {a b c d e : Value} {s5 : Slot} {v : Int32} (h : One s5) : storeLocals #[.val a, .val b, .val c, .val d, .val e, s5] 5 (.int v) = some #[.val a, .val b, .val c, .val d, .val e, .val (.int v)] := by
  rcases h with rfl | ⟨w, rfl, hw⟩
  · rfl
  · cases w <;> first | rfl | (simp [Value.category] at hw)
theorem own_e1 {p1 p2 : Int32} (hp : 0 ≤ p1.toInt ∧ p1.toInt ≤ p2.toInt ∧ p2.toInt < 6) (h : ¬ p2 = p1) : ¬ (p2 - (1 : Int32)) < 0 ∧ ((p2 - (1 : Int32))).toNatClampNeg < 6 := by
  have h' : p2.toInt ≠ p1.toInt := fun q => h (Int32.toInt_inj.mp q)
  have e1 : (1 : Int32).toInt = 1 := rfl
  have e : (p2 - (1 : Int32)).toInt = p2.toInt - 1 := by rw [Jvm.Kit.i32_sub (by omega) (by omega)]; omega
  refine ⟨by rw [Int32.lt_iff_toInt_lt, e, show (0 : Int32).toInt = 0 from rfl]; omega, ?_⟩
  show (p2 - (1 : Int32)).toInt.toNat < 6; omega
theorem own_e2 {p1 p2 : Int32} (hp : 0 ≤ p1.toInt ∧ p1.toInt ≤ p2.toInt ∧ p2.toInt < 6) (h : ¬ p2 = p1) (h2 : ¬ (p2 - (1 : Int32)) = p1) : ¬ (p2 - (2 : Int32)) < 0 ∧ ((p2 - (2 : Int32))).toNatClampNeg < 6 := by
  have h' : p2.toInt ≠ p1.toInt := fun q => h (Int32.toInt_inj.mp q)
  have h2' : (p2 - (1 : Int32)).toInt ≠ p1.toInt := fun q => h2 (Int32.toInt_inj.mp q)
  have e1 : (1 : Int32).toInt = 1 := rfl
  have e2 : (2 : Int32).toInt = 2 := rfl
  have e : (p2 - (1 : Int32)).toInt = p2.toInt - 1 := by rw [Jvm.Kit.i32_sub (by omega) (by omega)]; omega
  have e' : (p2 - (2 : Int32)).toInt = p2.toInt - 2 := by rw [Jvm.Kit.i32_sub (by omega) (by omega)]; omega
  refine ⟨by rw [Int32.lt_iff_toInt_lt, e', show (0 : Int32).toInt = 0 from rfl]; omega, ?_⟩
  show (p2 - (2 : Int32)).toInt.toNat < 6; omega

theorem pn_0 : plainName "com/example/dosewire/dosewire/server/net/EndEndsInPinLaw" = true := by first | (simp [plainName, overriddenIn]; done) | decide +kernel
theorem d1_0 : decode method_2_code 0 = .ok (.lload_n 0, 1) := by decide +kernel
theorem d1_1 : decode method_2_code 1 = .ok (.bipush 10, 2) := by decide +kernel
theorem d1_3 : decode method_2_code 3 = .ok (.iload_n 2, 1) := by decide +kernel
theorem d1_4 : decode method_2_code 4 = .ok (.imul, 1) := by decide +kernel
theorem d1_5 : decode method_2_code 5 = .ok (.lushr, 1) := by decide +kernel
theorem d1_6 : decode method_2_code 6 = .ok (.l2i, 1) := by decide +kernel
theorem d1_7 : decode method_2_code 7 = .ok (.sipush 1023, 3) := by decide +kernel
theorem d1_10 : decode method_2_code 10 = .ok (.iand, 1) := by decide +kernel
theorem d1_11 : decode method_2_code 11 = .ok (.istore_n 3, 1) := by decide +kernel
theorem d1_12 : decode method_2_code 12 = .ok (.iload_n 3, 1) := by decide +kernel
theorem d1_13 : decode method_2_code 13 = .ok (.iconst 3, 1) := by decide +kernel
theorem d1_14 : decode method_2_code 14 = .ok (.iand, 1) := by decide +kernel
theorem d1_15 : decode method_2_code 15 = .ok (.istore 4, 2) := by decide +kernel
theorem d1_17 : decode method_2_code 17 = .ok (.iload 4, 2) := by decide +kernel
theorem d1_19 : decode method_2_code 19 = .ok (.ifCond .ne 6, 3) := by decide +kernel
theorem d1_22 : decode method_2_code 22 = .ok (.bipush 10, 2) := by decide +kernel
theorem d1_24 : decode method_2_code 24 = .ok (.ireturn, 1) := by decide +kernel
theorem d1_25 : decode method_2_code 25 = .ok (.iload 4, 2) := by decide +kernel
theorem d1_27 : decode method_2_code 27 = .ok (.iconst 1, 1) := by decide +kernel
theorem d1_28 : decode method_2_code 28 = .ok (.if_icmp .ne 6, 3) := by decide +kernel
theorem d1_31 : decode method_2_code 31 = .ok (.bipush 13, 2) := by decide +kernel
theorem d1_33 : decode method_2_code 33 = .ok (.ireturn, 1) := by decide +kernel
theorem d1_34 : decode method_2_code 34 = .ok (.iload_n 3, 1) := by decide +kernel
theorem d1_35 : decode method_2_code 35 = .ok (.iconst 2, 1) := by decide +kernel
theorem d1_36 : decode method_2_code 36 = .ok (.ishr, 1) := by decide +kernel
theorem d1_37 : decode method_2_code 37 = .ok (.i2b, 1) := by decide +kernel
theorem d1_38 : decode method_2_code 38 = .ok (.ireturn, 1) := by decide +kernel
theorem ef_1 (m : MethodId) (q0 : Int64) (p1 : Int32) : entryFrame m #[(.long q0), (.int p1)] 5 = mkF m 0 #[.val (.long q0), .second, .val (.int p1), .unset, .unset] [] := by first | (simp [entryFrame, mkF, argsToLocals, Value.category]; done) | rfl
def v1_11 (q0 : Int64) (p1 : Int32) : Int32 := ((((q0.toUInt64 >>> (((10 : Int32) * p1) &&& 0x3f).toInt64.toUInt64).toInt64).toInt32) &&& (1023 : Int32))
def v1_15 (q0 : Int64) (p1 : Int32) : Int32 := ((v1_11 q0 p1) &&& (3 : Int32))
def f1 (q0 : Int64) (p1 : Int32) : Int32 := (if (v1_15 q0 p1) = (0 : Int32) then ((10 : Int32).toInt8.toInt32) else (if (v1_15 q0 p1) = (1 : Int32) then ((13 : Int32).toInt8.toInt32) else ((((v1_11 q0 p1) >>> ((2 : Int32) &&& 31)).toInt8.toInt32).toInt8.toInt32)))
def Q1 (Z : State) (q0 : Int64) (p1 : Int32) (h0 : Heap) (n0 : Nat) (v : Option Value) (h : Heap) (L : List Loc) : Prop := v = some (.int (f1 q0 p1)) ∧ Fr n0 L ∧ h = h0
set_option maxRecDepth 65536 in
set_option maxHeartbeats 40000000 in
theorem rm1 (l : Launch) (Z : State) (a0 : Array Value) (hw : ∀ d ∈ tables_1, d.before a0 Z = true) (ws : List Jvm.Cond) (q0 : Int64) (p1 : Int32) (h0 : Heap) (n0 : Nat) (Z0 : n0 ≤ h0.size) :
    MetFree l (⟨"com/example/dosewire/dosewire/server/net/EndEndsInPinLaw", "pick", "(JI)B"⟩ : MethodName) (head1 (Jvm.Cond.code (⟨"com/example/dosewire/dosewire/server/net/EndEndsInPinLaw", "pick", "(JI)B"⟩ : MethodName) method_2_code 5 (some .byte) :: ws) ({ frames := 0, cells := 0, slots := 0, locals := 0 } : Room)) (fun a U => a = #[(.long q0), (.int p1)] ∧ Z.Warmed39 U.vm ∧ U.heap = h0) (fun _ _ _ _ _ => True) (fun _ U o U' => ∃ v L, o = .returned v ∧ Q1 Z q0 p1 h0 n0 v U'.heap L ∧ FrameEnd U o U' L ({ frames := 0, cells := 0, slots := 0, locals := 0 } : Room).cells ({ frames := 0, cells := 0, slots := 0, locals := 0 } : Room).slots) := by
  refine MetFree.of_bodySF (plainFor_of_name pn_0) hisR ?_
  intro p e s m args below meth c s₁ Bd hml0 hP hK
  obtain ⟨rfl, hZ, hh⟩ := hP
  have hx := Bd.exec
  have hby := Bd.bytes
  have hml : c.maxLocals = 5 := hml0
  have hown : s.vm.findClass "com/example/dosewire/dosewire/server/net/EndEndsInPinLaw" = some m.cls := findClass_of_methodNamed Bd.named
  have hnm := (name_of_methodNamed Bd.named Bd.method).1
  have X0 : Stand p l e ({ frames := 0, cells := 0, slots := 0, locals := 0 } : Room) s m #[(.long q0), (.int p1)] below meth c s₁ [] 0 0 := Stand.of_body Bd
  have e0 : s₁.heap = h0 := by rw [← hh, Bd.state]; rfl
  have N0 := Fr.nil n0
  have pre0 : own_Go p e below (s₁.setTop (entryFrame m #[(.long q0), (.int p1)] 5)) (s₁.setTop (mkF m 0 #[.val (.long q0), .second, .val (.int p1), .unset, .unset] [])) := fun t k => castTop (ef_1 m q0 p1) k
  have k1 : own_Go p e below (s₁.setTop (entryFrame m #[(.long q0), (.int p1)] 5)) (s₁.setTop (mkF m 19 #[.val (.long q0), .second, .val (.int p1), .val (.int (v1_11 q0 p1)), .val (.int (v1_15 q0 p1))] [(.int (v1_15 q0 p1))])) := by
    intro t k
    refine pre0 t ?_
    show Steps p.tables e below (s₁.setTop (mkF m 0 #[.val (.long q0), .second, .val (.int p1), .unset, .unset] [])) t
    refine XS.lloadN X0.here hx rfl (hb hby d1_0) rfl ?_
    show Steps p.tables e below (s₁.setTop (mkF m 1 #[.val (.long q0), .second, .val (.int p1), .unset, .unset] [(.long q0)])) t
    refine XS.bipush X0.here hx rfl (hb hby d1_1) ?_
    show Steps p.tables e below (s₁.setTop (mkF m 3 #[.val (.long q0), .second, .val (.int p1), .unset, .unset] [(.int (10 : Int32)), (.long q0)])) t
    refine XS.iloadN X0.here hx rfl (hb hby d1_3) rfl ?_
    show Steps p.tables e below (s₁.setTop (mkF m 4 #[.val (.long q0), .second, .val (.int p1), .unset, .unset] [(.int p1), (.int (10 : Int32)), (.long q0)])) t
    refine XS.imul X0.here hx rfl (hb hby d1_4) rfl ?_
    show Steps p.tables e below (s₁.setTop (mkF m 5 #[.val (.long q0), .second, .val (.int p1), .unset, .unset] [(.int ((10 : Int32) * p1)), (.long q0)])) t
    refine XS.lushr X0.here hx rfl (hb hby d1_5) rfl ?_
    show Steps p.tables e below (s₁.setTop (mkF m 6 #[.val (.long q0), .second, .val (.int p1), .unset, .unset] [(.long ((q0.toUInt64 >>> (((10 : Int32) * p1) &&& 0x3f).toInt64.toUInt64).toInt64))])) t
    refine XS.l2i X0.here hx rfl (hb hby d1_6) rfl ?_
    show Steps p.tables e below (s₁.setTop (mkF m 7 #[.val (.long q0), .second, .val (.int p1), .unset, .unset] [(.int (((q0.toUInt64 >>> (((10 : Int32) * p1) &&& 0x3f).toInt64.toUInt64).toInt64).toInt32))])) t
    refine XS.sipush X0.here hx rfl (hb hby d1_7) ?_
    show Steps p.tables e below (s₁.setTop (mkF m 10 #[.val (.long q0), .second, .val (.int p1), .unset, .unset] [(.int (1023 : Int32)), (.int (((q0.toUInt64 >>> (((10 : Int32) * p1) &&& 0x3f).toInt64.toUInt64).toInt64).toInt32))])) t
    refine XS.iand X0.here hx rfl (hb hby d1_10) rfl ?_
    show Steps p.tables e below (s₁.setTop (mkF m 11 #[.val (.long q0), .second, .val (.int p1), .unset, .unset] [(.int ((((q0.toUInt64 >>> (((10 : Int32) * p1) &&& 0x3f).toInt64.toUInt64).toInt64).toInt32) &&& (1023 : Int32)))])) t
    refine XS.istoreN X0.here hx rfl (hb hby d1_11) rfl (l' := #[.val (.long q0), .second, .val (.int p1), .val (.int (v1_11 q0 p1)), .unset]) rfl ?_
    show Steps p.tables e below (s₁.setTop (mkF m 12 #[.val (.long q0), .second, .val (.int p1), .val (.int (v1_11 q0 p1)), .unset] [])) t
    refine XS.iloadN X0.here hx rfl (hb hby d1_12) rfl ?_
    show Steps p.tables e below (s₁.setTop (mkF m 13 #[.val (.long q0), .second, .val (.int p1), .val (.int (v1_11 q0 p1)), .unset] [(.int (v1_11 q0 p1))])) t
    refine XS.iconst X0.here hx rfl (hb hby d1_13) ?_
    show Steps p.tables e below (s₁.setTop (mkF m 14 #[.val (.long q0), .second, .val (.int p1), .val (.int (v1_11 q0 p1)), .unset] [(.int (3 : Int32)), (.int (v1_11 q0 p1))])) t
    refine XS.iand X0.here hx rfl (hb hby d1_14) rfl ?_
    show Steps p.tables e below (s₁.setTop (mkF m 15 #[.val (.long q0), .second, .val (.int p1), .val (.int (v1_11 q0 p1)), .unset] [(.int ((v1_11 q0 p1) &&& (3 : Int32)))])) t
    refine XS.istore X0.here hx rfl (hb hby d1_15) rfl (l' := #[.val (.long q0), .second, .val (.int p1), .val (.int (v1_11 q0 p1)), .val (.int (v1_15 q0 p1))]) rfl ?_
    show Steps p.tables e below (s₁.setTop (mkF m 17 #[.val (.long q0), .second, .val (.int p1), .val (.int (v1_11 q0 p1)), .val (.int (v1_15 q0 p1))] [])) t
    refine XS.iload X0.here hx rfl (hb hby d1_17) rfl ?_
    exact k
  by_cases hc19_2 : (v1_15 q0 p1) = (0 : Int32)
  · have k3 : own_Go p e below (s₁.setTop (entryFrame m #[(.long q0), (.int p1)] 5)) (s₁.setTop (mkF m 24 #[.val (.long q0), .second, .val (.int p1), .val (.int (v1_11 q0 p1)), .val (.int (v1_15 q0 p1))] [(.int (10 : Int32))])) := by
      intro t k
      refine k1 t ?_
      show Steps p.tables e below (s₁.setTop (mkF m 19 #[.val (.long q0), .second, .val (.int p1), .val (.int (v1_11 q0 p1)), .val (.int (v1_15 q0 p1))] [(.int (v1_15 q0 p1))])) t
      refine XS.ifNo X0.here hx rfl (hb hby d1_19) rfl ((if0 _ _).trans (teq hc19_2).2) ?_
      show Steps p.tables e below (s₁.setTop (mkF m 22 #[.val (.long q0), .second, .val (.int p1), .val (.int (v1_11 q0 p1)), .val (.int (v1_15 q0 p1))] [])) t
      refine XS.bipush X0.here hx rfl (hb hby d1_22) ?_
      exact k
    obtain ⟨fs, hr, hrun, hended, hW, hsame⟩ := X0.leave (v := some (.int ((10 : Int32).toInt8.toInt32))) (fun h => by rw [Bd.returns] at h; cases h)
    refine ⟨_, _, k3 _ ?_, hrun, hended, _, _, rfl, ?_, ⟨_, rfl⟩, hW, hsame.mono (by decide) (by decide)⟩
    · exact retN X0 hx (t := .byte) Bd.returns (by simp) (hb hby d1_24) hr
    · show Q1 Z q0 p1 h0 n0 _ s₁.heap _
      rw [e0]
      exact ⟨congrArg (fun z => some (Value.int z)) (show f1 q0 p1 = ((10 : Int32).toInt8.toInt32) from (by unfold f1; rw [if_pos hc19_2])).symm, N0, rfl⟩
  · have k4 : own_Go p e below (s₁.setTop (entryFrame m #[(.long q0), (.int p1)] 5)) (s₁.setTop (mkF m 28 #[.val (.long q0), .second, .val (.int p1), .val (.int (v1_11 q0 p1)), .val (.int (v1_15 q0 p1))] [(.int (1 : Int32)), (.int (v1_15 q0 p1))])) := by
      intro t k
      refine k1 t ?_
      show Steps p.tables e below (s₁.setTop (mkF m 19 #[.val (.long q0), .second, .val (.int p1), .val (.int (v1_11 q0 p1)), .val (.int (v1_15 q0 p1))] [(.int (v1_15 q0 p1))])) t
      refine XS.ifYes X0.here hx rfl (pc0 := 19) (pc' := 25) rfl (hb hby d1_19) rfl ((if0 _ _).trans (feq hc19_2).2) (by decide) (by decide) ?_
      show Steps p.tables e below (s₁.setTop (mkF m 25 #[.val (.long q0), .second, .val (.int p1), .val (.int (v1_11 q0 p1)), .val (.int (v1_15 q0 p1))] [])) t
      refine XS.iload X0.here hx rfl (hb hby d1_25) rfl ?_
      show Steps p.tables e below (s₁.setTop (mkF m 27 #[.val (.long q0), .second, .val (.int p1), .val (.int (v1_11 q0 p1)), .val (.int (v1_15 q0 p1))] [(.int (v1_15 q0 p1))])) t
      refine XS.iconst X0.here hx rfl (hb hby d1_27) ?_
      exact k
    by_cases hc28_5 : (v1_15 q0 p1) = (1 : Int32)
    · have k6 : own_Go p e below (s₁.setTop (entryFrame m #[(.long q0), (.int p1)] 5)) (s₁.setTop (mkF m 33 #[.val (.long q0), .second, .val (.int p1), .val (.int (v1_11 q0 p1)), .val (.int (v1_15 q0 p1))] [(.int (13 : Int32))])) := by
        intro t k
        refine k4 t ?_
        show Steps p.tables e below (s₁.setTop (mkF m 28 #[.val (.long q0), .second, .val (.int p1), .val (.int (v1_11 q0 p1)), .val (.int (v1_15 q0 p1))] [(.int (1 : Int32)), (.int (v1_15 q0 p1))])) t
        refine XS.icmpNo X0.here hx rfl (hb hby d1_28) rfl (teq hc28_5).2 ?_
        show Steps p.tables e below (s₁.setTop (mkF m 31 #[.val (.long q0), .second, .val (.int p1), .val (.int (v1_11 q0 p1)), .val (.int (v1_15 q0 p1))] [])) t
        refine XS.bipush X0.here hx rfl (hb hby d1_31) ?_
        exact k
      obtain ⟨fs, hr, hrun, hended, hW, hsame⟩ := X0.leave (v := some (.int ((13 : Int32).toInt8.toInt32))) (fun h => by rw [Bd.returns] at h; cases h)
      refine ⟨_, _, k6 _ ?_, hrun, hended, _, _, rfl, ?_, ⟨_, rfl⟩, hW, hsame.mono (by decide) (by decide)⟩
      · exact retN X0 hx (t := .byte) Bd.returns (by simp) (hb hby d1_33) hr
      · show Q1 Z q0 p1 h0 n0 _ s₁.heap _
        rw [e0]
        exact ⟨congrArg (fun z => some (Value.int z)) (show f1 q0 p1 = ((13 : Int32).toInt8.toInt32) from (by unfold f1; rw [if_neg hc19_2, if_pos hc28_5])).symm, N0, rfl⟩
    · have k7 : own_Go p e below (s₁.setTop (entryFrame m #[(.long q0), (.int p1)] 5)) (s₁.setTop (mkF m 38 #[.val (.long q0), .second, .val (.int p1), .val (.int (v1_11 q0 p1)), .val (.int (v1_15 q0 p1))] [(.int (((v1_11 q0 p1) >>> ((2 : Int32) &&& 31)).toInt8.toInt32))])) := by
        intro t k
        refine k4 t ?_
        show Steps p.tables e below (s₁.setTop (mkF m 28 #[.val (.long q0), .second, .val (.int p1), .val (.int (v1_11 q0 p1)), .val (.int (v1_15 q0 p1))] [(.int (1 : Int32)), (.int (v1_15 q0 p1))])) t
        refine XS.icmpYes X0.here hx rfl (pc0 := 28) (pc' := 34) rfl (hb hby d1_28) rfl (feq hc28_5).2 (by decide) (by decide) ?_
        show Steps p.tables e below (s₁.setTop (mkF m 34 #[.val (.long q0), .second, .val (.int p1), .val (.int (v1_11 q0 p1)), .val (.int (v1_15 q0 p1))] [])) t
        refine XS.iloadN X0.here hx rfl (hb hby d1_34) rfl ?_
        show Steps p.tables e below (s₁.setTop (mkF m 35 #[.val (.long q0), .second, .val (.int p1), .val (.int (v1_11 q0 p1)), .val (.int (v1_15 q0 p1))] [(.int (v1_11 q0 p1))])) t
        refine XS.iconst X0.here hx rfl (hb hby d1_35) ?_
        show Steps p.tables e below (s₁.setTop (mkF m 36 #[.val (.long q0), .second, .val (.int p1), .val (.int (v1_11 q0 p1)), .val (.int (v1_15 q0 p1))] [(.int (2 : Int32)), (.int (v1_11 q0 p1))])) t
        refine XS.ishr X0.here hx rfl (hb hby d1_36) rfl ?_
        show Steps p.tables e below (s₁.setTop (mkF m 37 #[.val (.long q0), .second, .val (.int p1), .val (.int (v1_11 q0 p1)), .val (.int (v1_15 q0 p1))] [(.int ((v1_11 q0 p1) >>> ((2 : Int32) &&& 31)))])) t
        refine XS.i2b X0.here hx rfl (hb hby d1_37) rfl ?_
        exact k
      obtain ⟨fs, hr, hrun, hended, hW, hsame⟩ := X0.leave (v := some (.int ((((v1_11 q0 p1) >>> ((2 : Int32) &&& 31)).toInt8.toInt32).toInt8.toInt32))) (fun h => by rw [Bd.returns] at h; cases h)
      refine ⟨_, _, k7 _ ?_, hrun, hended, _, _, rfl, ?_, ⟨_, rfl⟩, hW, hsame.mono (by decide) (by decide)⟩
      · exact retN X0 hx (t := .byte) Bd.returns (by simp) (hb hby d1_38) hr
      · show Q1 Z q0 p1 h0 n0 _ s₁.heap _
        rw [e0]
        exact ⟨congrArg (fun z => some (Value.int z)) (show f1 q0 p1 = ((((v1_11 q0 p1) >>> ((2 : Int32) &&& 31)).toInt8.toInt32).toInt8.toInt32) from (by unfold f1; rw [if_neg hc19_2, if_neg hc28_5])).symm, N0, rfl⟩
theorem d2_0 : decode jdk_29_method_69_code 0 = .ok (.iload_n 0, 1) := by decide +kernel
theorem d2_1 : decode jdk_29_method_69_code 1 = .ok (.iload_n 1, 1) := by decide +kernel
theorem d2_2 : decode jdk_29_method_69_code 2 = .ok (.if_icmp .gt 7, 3) := by decide +kernel
theorem d2_5 : decode jdk_29_method_69_code 5 = .ok (.iload_n 0, 1) := by decide +kernel
theorem d2_6 : decode jdk_29_method_69_code 6 = .ok (.goto 4, 3) := by decide +kernel
theorem d2_9 : decode jdk_29_method_69_code 9 = .ok (.iload_n 1, 1) := by decide +kernel
theorem d2_10 : decode jdk_29_method_69_code 10 = .ok (.ireturn, 1) := by decide +kernel
theorem ef_2 (m : MethodId) (p0 : Int32) (p1 : Int32) : entryFrame m #[(.int p0), (.int p1)] 2 = mkF m 0 #[.val (.int p0), .val (.int p1)] [] := by first | (simp [entryFrame, mkF, argsToLocals, Value.category]; done) | rfl
def f2 (p0 : Int32) (p1 : Int32) : Int32 := (if p1 < p0 then p1 else p0)
def Q2 (Z : State) (p0 : Int32) (p1 : Int32) (h0 : Heap) (n0 : Nat) (v : Option Value) (h : Heap) (L : List Loc) : Prop := v = some (.int (f2 p0 p1)) ∧ Fr n0 L ∧ h = h0
set_option maxRecDepth 65536 in
set_option maxHeartbeats 40000000 in
theorem rm2 (l : Launch) (Z : State) (a0 : Array Value) (hw : ∀ d ∈ tables_1, d.before a0 Z = true) (ws : List Jvm.Cond) (p0 : Int32) (p1 : Int32) (h0 : Heap) (n0 : Nat) (Z0 : n0 ≤ h0.size) :
    MetFree l (⟨"java/lang/Math", "min", "(II)I"⟩ : MethodName) (head1 (Jvm.Cond.code (⟨"java/lang/Math", "min", "(II)I"⟩ : MethodName) jdk_29_method_69_code 2 (some .int) :: ws) ({ frames := 0, cells := 0, slots := 0, locals := 0 } : Room)) (fun a U => a = #[(.int p0), (.int p1)] ∧ Z.Warmed39 U.vm ∧ U.heap = h0) (fun _ _ _ _ _ => True) (fun _ U o U' => ∃ v L, o = .returned v ∧ Q2 Z p0 p1 h0 n0 v U'.heap L ∧ FrameEnd U o U' L ({ frames := 0, cells := 0, slots := 0, locals := 0 } : Room).cells ({ frames := 0, cells := 0, slots := 0, locals := 0 } : Room).slots) := by
  refine MetFree.of_bodySF (Jvm.Free.JP.mathPlain rfl (by decide +kernel)) hisR ?_
  intro p e s m args below meth c s₁ Bd hml0 hP hK
  obtain ⟨rfl, hZ, hh⟩ := hP
  have hx := Bd.exec
  have hby := Bd.bytes
  have hml : c.maxLocals = 2 := hml0
  have hown : s.vm.findClass "java/lang/Math" = some m.cls := findClass_of_methodNamed Bd.named
  have hnm := (name_of_methodNamed Bd.named Bd.method).1
  have X0 : Stand p l e ({ frames := 0, cells := 0, slots := 0, locals := 0 } : Room) s m #[(.int p0), (.int p1)] below meth c s₁ [] 0 0 := Stand.of_body Bd
  have e0 : s₁.heap = h0 := by rw [← hh, Bd.state]; rfl
  have N0 := Fr.nil n0
  have pre0 : own_Go p e below (s₁.setTop (entryFrame m #[(.int p0), (.int p1)] 2)) (s₁.setTop (mkF m 0 #[.val (.int p0), .val (.int p1)] [])) := fun t k => castTop (ef_2 m p0 p1) k
  have k1 : own_Go p e below (s₁.setTop (entryFrame m #[(.int p0), (.int p1)] 2)) (s₁.setTop (mkF m 2 #[.val (.int p0), .val (.int p1)] [(.int p1), (.int p0)])) := by
    intro t k
    refine pre0 t ?_
    show Steps p.tables e below (s₁.setTop (mkF m 0 #[.val (.int p0), .val (.int p1)] [])) t
    refine XS.iloadN X0.here hx rfl (hb hby d2_0) rfl ?_
    show Steps p.tables e below (s₁.setTop (mkF m 1 #[.val (.int p0), .val (.int p1)] [(.int p0)])) t
    refine XS.iloadN X0.here hx rfl (hb hby d2_1) rfl ?_
    exact k
  by_cases hc2_2 : p1 < p0
  · have k3 : own_Go p e below (s₁.setTop (entryFrame m #[(.int p0), (.int p1)] 2)) (s₁.setTop (mkF m 10 #[.val (.int p0), .val (.int p1)] [(.int p1)])) := by
      intro t k
      refine k1 t ?_
      show Steps p.tables e below (s₁.setTop (mkF m 2 #[.val (.int p0), .val (.int p1)] [(.int p1), (.int p0)])) t
      refine XS.icmpYes X0.here hx rfl (pc0 := 2) (pc' := 9) rfl (hb hby d2_2) rfl (tlt hc2_2).2.2.1 (by decide) (by decide) ?_
      show Steps p.tables e below (s₁.setTop (mkF m 9 #[.val (.int p0), .val (.int p1)] [])) t
      refine XS.iloadN X0.here hx rfl (hb hby d2_9) rfl ?_
      exact k
    obtain ⟨fs, hr, hrun, hended, hW, hsame⟩ := X0.leave (v := some (.int p1)) (fun h => by rw [Bd.returns] at h; cases h)
    refine ⟨_, _, k3 _ ?_, hrun, hended, _, _, rfl, ?_, ⟨_, rfl⟩, hW, hsame.mono (by decide) (by decide)⟩
    · exact retI X0 hx Bd.returns (hb hby d2_10) hr
    · show Q2 Z p0 p1 h0 n0 _ s₁.heap _
      rw [e0]
      exact ⟨congrArg (fun z => some (Value.int z)) (show f2 p0 p1 = p1 from (by unfold f2; rw [if_pos hc2_2])).symm, N0, rfl⟩
  · have k4 : own_Go p e below (s₁.setTop (entryFrame m #[(.int p0), (.int p1)] 2)) (s₁.setTop (mkF m 10 #[.val (.int p0), .val (.int p1)] [(.int p0)])) := by
      intro t k
      refine k1 t ?_
      show Steps p.tables e below (s₁.setTop (mkF m 2 #[.val (.int p0), .val (.int p1)] [(.int p1), (.int p0)])) t
      refine XS.icmpNo X0.here hx rfl (hb hby d2_2) rfl (flt hc2_2).2.2.1 ?_
      show Steps p.tables e below (s₁.setTop (mkF m 5 #[.val (.int p0), .val (.int p1)] [])) t
      refine XS.iloadN X0.here hx rfl (hb hby d2_5) rfl ?_
      show Steps p.tables e below (s₁.setTop (mkF m 6 #[.val (.int p0), .val (.int p1)] [(.int p0)])) t
      refine XS.goto X0.here hx rfl (pc0 := 6) (pc' := 10) rfl (hb hby d2_6) (by decide) (by decide) ?_
      exact k
    obtain ⟨fs, hr, hrun, hended, hW, hsame⟩ := X0.leave (v := some (.int p0)) (fun h => by rw [Bd.returns] at h; cases h)
    refine ⟨_, _, k4 _ ?_, hrun, hended, _, _, rfl, ?_, ⟨_, rfl⟩, hW, hsame.mono (by decide) (by decide)⟩
    · exact retI X0 hx Bd.returns (hb hby d2_10) hr
    · show Q2 Z p0 p1 h0 n0 _ s₁.heap _
      rw [e0]
      exact ⟨congrArg (fun z => some (Value.int z)) (show f2 p0 p1 = p0 from (by unfold f2; rw [if_neg hc2_2])).symm, N0, rfl⟩
theorem d3_0 : decode jdk_29_method_65_code 0 = .ok (.iload_n 0, 1) := by decide +kernel
theorem d3_1 : decode jdk_29_method_65_code 1 = .ok (.iload_n 1, 1) := by decide +kernel
theorem d3_2 : decode jdk_29_method_65_code 2 = .ok (.if_icmp .lt 7, 3) := by decide +kernel
theorem d3_5 : decode jdk_29_method_65_code 5 = .ok (.iload_n 0, 1) := by decide +kernel
theorem d3_6 : decode jdk_29_method_65_code 6 = .ok (.goto 4, 3) := by decide +kernel
theorem d3_9 : decode jdk_29_method_65_code 9 = .ok (.iload_n 1, 1) := by decide +kernel
theorem d3_10 : decode jdk_29_method_65_code 10 = .ok (.ireturn, 1) := by decide +kernel
theorem ef_3 (m : MethodId) (p0 : Int32) (p1 : Int32) : entryFrame m #[(.int p0), (.int p1)] 2 = mkF m 0 #[.val (.int p0), .val (.int p1)] [] := by first | (simp [entryFrame, mkF, argsToLocals, Value.category]; done) | rfl
def f3 (p0 : Int32) (p1 : Int32) : Int32 := (if p0 < p1 then p1 else p0)
def Q3 (Z : State) (p0 : Int32) (p1 : Int32) (h0 : Heap) (n0 : Nat) (v : Option Value) (h : Heap) (L : List Loc) : Prop := v = some (.int (f3 p0 p1)) ∧ Fr n0 L ∧ h = h0
set_option maxRecDepth 65536 in
set_option maxHeartbeats 40000000 in
theorem rm3 (l : Launch) (Z : State) (a0 : Array Value) (hw : ∀ d ∈ tables_1, d.before a0 Z = true) (ws : List Jvm.Cond) (p0 : Int32) (p1 : Int32) (h0 : Heap) (n0 : Nat) (Z0 : n0 ≤ h0.size) :
    MetFree l (⟨"java/lang/Math", "max", "(II)I"⟩ : MethodName) (head1 (Jvm.Cond.code (⟨"java/lang/Math", "max", "(II)I"⟩ : MethodName) jdk_29_method_65_code 2 (some .int) :: ws) ({ frames := 0, cells := 0, slots := 0, locals := 0 } : Room)) (fun a U => a = #[(.int p0), (.int p1)] ∧ Z.Warmed39 U.vm ∧ U.heap = h0) (fun _ _ _ _ _ => True) (fun _ U o U' => ∃ v L, o = .returned v ∧ Q3 Z p0 p1 h0 n0 v U'.heap L ∧ FrameEnd U o U' L ({ frames := 0, cells := 0, slots := 0, locals := 0 } : Room).cells ({ frames := 0, cells := 0, slots := 0, locals := 0 } : Room).slots) := by
  refine MetFree.of_bodySF (Jvm.Free.JP.mathPlain rfl (by decide +kernel)) hisR ?_
  intro p e s m args below meth c s₁ Bd hml0 hP hK
  obtain ⟨rfl, hZ, hh⟩ := hP
  have hx := Bd.exec
  have hby := Bd.bytes
  have hml : c.maxLocals = 2 := hml0
  have hown : s.vm.findClass "java/lang/Math" = some m.cls := findClass_of_methodNamed Bd.named
  have hnm := (name_of_methodNamed Bd.named Bd.method).1
  have X0 : Stand p l e ({ frames := 0, cells := 0, slots := 0, locals := 0 } : Room) s m #[(.int p0), (.int p1)] below meth c s₁ [] 0 0 := Stand.of_body Bd
  have e0 : s₁.heap = h0 := by rw [← hh, Bd.state]; rfl
  have N0 := Fr.nil n0
  have pre0 : own_Go p e below (s₁.setTop (entryFrame m #[(.int p0), (.int p1)] 2)) (s₁.setTop (mkF m 0 #[.val (.int p0), .val (.int p1)] [])) := fun t k => castTop (ef_3 m p0 p1) k
  have k1 : own_Go p e below (s₁.setTop (entryFrame m #[(.int p0), (.int p1)] 2)) (s₁.setTop (mkF m 2 #[.val (.int p0), .val (.int p1)] [(.int p1), (.int p0)])) := by
    intro t k
    refine pre0 t ?_
    show Steps p.tables e below (s₁.setTop (mkF m 0 #[.val (.int p0), .val (.int p1)] [])) t
    refine XS.iloadN X0.here hx rfl (hb hby d3_0) rfl ?_
    show Steps p.tables e below (s₁.setTop (mkF m 1 #[.val (.int p0), .val (.int p1)] [(.int p0)])) t
    refine XS.iloadN X0.here hx rfl (hb hby d3_1) rfl ?_
    exact k
  by_cases hc2_2 : p0 < p1
  · have k3 : own_Go p e below (s₁.setTop (entryFrame m #[(.int p0), (.int p1)] 2)) (s₁.setTop (mkF m 10 #[.val (.int p0), .val (.int p1)] [(.int p1)])) := by
      intro t k
      refine k1 t ?_
      show Steps p.tables e below (s₁.setTop (mkF m 2 #[.val (.int p0), .val (.int p1)] [(.int p1), (.int p0)])) t
      refine XS.icmpYes X0.here hx rfl (pc0 := 2) (pc' := 9) rfl (hb hby d3_2) rfl (tlt hc2_2).1 (by decide) (by decide) ?_
      show Steps p.tables e below (s₁.setTop (mkF m 9 #[.val (.int p0), .val (.int p1)] [])) t
      refine XS.iloadN X0.here hx rfl (hb hby d3_9) rfl ?_
      exact k
    obtain ⟨fs, hr, hrun, hended, hW, hsame⟩ := X0.leave (v := some (.int p1)) (fun h => by rw [Bd.returns] at h; cases h)
    refine ⟨_, _, k3 _ ?_, hrun, hended, _, _, rfl, ?_, ⟨_, rfl⟩, hW, hsame.mono (by decide) (by decide)⟩
    · exact retI X0 hx Bd.returns (hb hby d3_10) hr
    · show Q3 Z p0 p1 h0 n0 _ s₁.heap _
      rw [e0]
      exact ⟨congrArg (fun z => some (Value.int z)) (show f3 p0 p1 = p1 from (by unfold f3; rw [if_pos hc2_2])).symm, N0, rfl⟩
  · have k4 : own_Go p e below (s₁.setTop (entryFrame m #[(.int p0), (.int p1)] 2)) (s₁.setTop (mkF m 10 #[.val (.int p0), .val (.int p1)] [(.int p0)])) := by
      intro t k
      refine k1 t ?_
      show Steps p.tables e below (s₁.setTop (mkF m 2 #[.val (.int p0), .val (.int p1)] [(.int p1), (.int p0)])) t
      refine XS.icmpNo X0.here hx rfl (hb hby d3_2) rfl (flt hc2_2).1 ?_
      show Steps p.tables e below (s₁.setTop (mkF m 5 #[.val (.int p0), .val (.int p1)] [])) t
      refine XS.iloadN X0.here hx rfl (hb hby d3_5) rfl ?_
      show Steps p.tables e below (s₁.setTop (mkF m 6 #[.val (.int p0), .val (.int p1)] [(.int p0)])) t
      refine XS.goto X0.here hx rfl (pc0 := 6) (pc' := 10) rfl (hb hby d3_6) (by decide) (by decide) ?_
      exact k
    obtain ⟨fs, hr, hrun, hended, hW, hsame⟩ := X0.leave (v := some (.int p0)) (fun h => by rw [Bd.returns] at h; cases h)
    refine ⟨_, _, k4 _ ?_, hrun, hended, _, _, rfl, ?_, ⟨_, rfl⟩, hW, hsame.mono (by decide) (by decide)⟩
    · exact retI X0 hx Bd.returns (hb hby d3_10) hr
    · show Q3 Z p0 p1 h0 n0 _ s₁.heap _
      rw [e0]
      exact ⟨congrArg (fun z => some (Value.int z)) (show f3 p0 p1 = p0 from (by unfold f3; rw [if_neg hc2_2])).symm, N0, rfl⟩
theorem pn_1 : plainName "com/example/dosewire/dosewire/server/net/RequestHead$End" = true := by first | (simp [plainName, overriddenIn]; done) | decide +kernel
theorem d4_0 : decode prog_145_method_1_code 0 = .ok (.aload_n 0, 1) := by decide +kernel
theorem d4_1 : decode prog_145_method_1_code 1 = .ok (.invokespecial 1, 3) := by decide +kernel
theorem d4_4 : decode prog_145_method_1_code 4 = .ok (.return_, 1) := by decide +kernel
theorem ef_4 (m : MethodId) (r0 : Addr) : entryFrame m #[(.ref r0)] 1 = mkF m 0 #[.val (.ref r0)] [] := by first | (simp [entryFrame, mkF, argsToLocals, Value.category]; done) | rfl
def Q4 (Z : State) (r0 : Addr) (h0 : Heap) (n0 : Nat) (v : Option Value) (h : Heap) (L : List Loc) : Prop := v = none ∧ Fr n0 L ∧ h = h0
set_option maxRecDepth 65536 in
set_option maxHeartbeats 40000000 in
theorem rm4 (l : Launch) (Z : State) (a0 : Array Value) (hw : ∀ d ∈ tables_1, d.before a0 Z = true) (ws : List Jvm.Cond) (r0 : Addr) (h0 : Heap) (n0 : Nat) (Z0 : n0 ≤ h0.size) :
    MetFree l (⟨"com/example/dosewire/dosewire/server/net/RequestHead$End", "<init>", "()V"⟩ : MethodName) (head1 (Jvm.Cond.code (⟨"com/example/dosewire/dosewire/server/net/RequestHead$End", "<init>", "()V"⟩ : MethodName) prog_145_method_1_code 1 none :: ws) ({ frames := 1, cells := 0, slots := 0, locals := 12 } : Room)) (fun a U => a = #[(.ref r0)] ∧ Z.Warmed39 U.vm ∧ U.heap = h0) (fun _ _ _ _ _ => True) (fun _ U o U' => ∃ v L, o = .returned v ∧ Q4 Z r0 h0 n0 v U'.heap L ∧ FrameEnd U o U' L ({ frames := 1, cells := 0, slots := 0, locals := 12 } : Room).cells ({ frames := 1, cells := 0, slots := 0, locals := 12 } : Room).slots) := by
  refine MetFree.of_bodySF (plainFor_of_name pn_1) hisR ?_
  intro p e s m args below meth c s₁ Bd hml0 hP hK
  obtain ⟨rfl, hZ, hh⟩ := hP
  have hx := Bd.exec
  have hby := Bd.bytes
  have hml : c.maxLocals = 1 := hml0
  have hown : s.vm.findClass "com/example/dosewire/dosewire/server/net/RequestHead$End" = some m.cls := findClass_of_methodNamed Bd.named
  have hnm := (name_of_methodNamed Bd.named Bd.method).1
  have X0 : Stand p l e ({ frames := 1, cells := 0, slots := 0, locals := 12 } : Room) s m #[(.ref r0)] below meth c s₁ [] 0 0 := Stand.of_body Bd
  have e0 : s₁.heap = h0 := by rw [← hh, Bd.state]; rfl
  have N0 := Fr.nil n0
  have pre0 : own_Go p e below (s₁.setTop (entryFrame m #[(.ref r0)] 1)) (s₁.setTop (mkF m 0 #[.val (.ref r0)] [])) := fun t k => castTop (ef_4 m r0) k
  have k1 : own_Go p e below (s₁.setTop (entryFrame m #[(.ref r0)] 1)) (s₁.setTop (mkF m 1 #[.val (.ref r0)] [(.ref r0)])) := by
    intro t k
    refine pre0 t ?_
    show Steps p.tables e below (s₁.setTop (mkF m 0 #[.val (.ref r0)] [])) t
    refine XS.aloadN X0.here hx rfl (hb hby d4_0) rfl rfl ?_
    exact k
  obtain ⟨T2, X2, e2, st2⟩ := initO X0 hx hZ hown (hw _ (List.mem_of_getElem? (i := 19) rfl)) (hw _ (List.mem_of_getElem? (i := 20) rfl)) (hw _ (List.mem_of_getElem? (i := 21) rfl)) e0 (g := (mkF m 1 #[.val (.ref r0)] [(.ref r0)])) rfl (by rw [hml]; rfl) rfl (hb hby d4_1) (by decide) (W := 0) (by show 2 * 0 + _ ≤ _; exact Nat.le_of_eq rfl) (by decide)
  have k3 : own_Go p e below (s₁.setTop (entryFrame m #[(.ref r0)] 1)) (T2.setTop (mkF m 4 #[.val (.ref r0)] [])) := fun t k => k1 t (st2 t k)
  obtain ⟨fs, hr, hrun, hended, hW, hsame⟩ := X2.leave (v := none) (fun _ => rfl)
  refine ⟨_, _, k3 _ ?_, hrun, hended, _, _, rfl, ?_, ⟨_, rfl⟩, hW, hsame.mono (by decide) (by decide)⟩
  · exact X2.returnOut hx Bd.returns (hb hby d4_4) hr
  · show Q4 Z r0 h0 n0 _ T2.heap _
    rw [e2]
    exact ⟨rfl, N0, rfl⟩
theorem d6_0 : decode prog_145_method_2_code 0 = .ok (.iload_n 2, 1) := by decide +kernel
theorem d6_1 : decode prog_145_method_2_code 1 = .ok (.istore 4, 2) := by decide +kernel
theorem d6_3 : decode prog_145_method_2_code 3 = .ok (.iload 4, 2) := by decide +kernel
theorem d6_5 : decode prog_145_method_2_code 5 = .ok (.iload_n 3, 1) := by decide +kernel
theorem d6_6 : decode prog_145_method_2_code 6 = .ok (.if_icmp .ge 120, 3) := by decide +kernel
theorem d6_9 : decode prog_145_method_2_code 9 = .ok (.aload_n 1, 1) := by decide +kernel
theorem d6_10 : decode prog_145_method_2_code 10 = .ok (.iload 4, 2) := by decide +kernel
theorem d6_12 : decode prog_145_method_2_code 12 = .ok (.baload, 1) := by decide +kernel
theorem d6_13 : decode prog_145_method_2_code 13 = .ok (.bipush 10, 2) := by decide +kernel
theorem d6_15 : decode prog_145_method_2_code 15 = .ok (.if_icmp .eq 38, 3) := by decide +kernel
theorem d6_18 : decode prog_145_method_2_code 18 = .ok (.aload_n 0, 1) := by decide +kernel
theorem d6_19 : decode prog_145_method_2_code 19 = .ok (.dup, 1) := by decide +kernel
theorem d6_20 : decode prog_145_method_2_code 20 = .ok (.getfield 7, 3) := by decide +kernel
theorem d6_23 : decode prog_145_method_2_code 23 = .ok (.dup_x1, 1) := by decide +kernel
theorem d6_24 : decode prog_145_method_2_code 24 = .ok (.iconst 1, 1) := by decide +kernel
theorem d6_25 : decode prog_145_method_2_code 25 = .ok (.iadd, 1) := by decide +kernel
theorem d6_26 : decode prog_145_method_2_code 26 = .ok (.putfield 7, 3) := by decide +kernel
theorem d6_29 : decode prog_145_method_2_code 29 = .ok (.ifCond .ne 91, 3) := by decide +kernel
theorem d6_32 : decode prog_145_method_2_code 32 = .ok (.aload_n 0, 1) := by decide +kernel
theorem d6_33 : decode prog_145_method_2_code 33 = .ok (.aload_n 1, 1) := by decide +kernel
theorem d6_34 : decode prog_145_method_2_code 34 = .ok (.iload 4, 2) := by decide +kernel
theorem d6_36 : decode prog_145_method_2_code 36 = .ok (.baload, 1) := by decide +kernel
theorem d6_37 : decode prog_145_method_2_code 37 = .ok (.bipush 13, 2) := by decide +kernel
theorem d6_39 : decode prog_145_method_2_code 39 = .ok (.if_icmp .ne 7, 3) := by decide +kernel
theorem d6_42 : decode prog_145_method_2_code 42 = .ok (.iconst 1, 1) := by decide +kernel
theorem d6_43 : decode prog_145_method_2_code 43 = .ok (.goto 4, 3) := by decide +kernel
theorem d6_46 : decode prog_145_method_2_code 46 = .ok (.iconst 0, 1) := by decide +kernel
theorem d6_47 : decode prog_145_method_2_code 47 = .ok (.putfield 13, 3) := by decide +kernel
theorem d6_50 : decode prog_145_method_2_code 50 = .ok (.goto 70, 3) := by decide +kernel
theorem d6_53 : decode prog_145_method_2_code 53 = .ok (.aload_n 0, 1) := by decide +kernel
theorem d6_54 : decode prog_145_method_2_code 54 = .ok (.getfield 7, 3) := by decide +kernel
theorem d6_57 : decode prog_145_method_2_code 57 = .ok (.ifCond .eq 18, 3) := by decide +kernel
theorem d6_60 : decode prog_145_method_2_code 60 = .ok (.aload_n 0, 1) := by decide +kernel
theorem d6_61 : decode prog_145_method_2_code 61 = .ok (.getfield 7, 3) := by decide +kernel
theorem d6_64 : decode prog_145_method_2_code 64 = .ok (.iconst 1, 1) := by decide +kernel
theorem d6_65 : decode prog_145_method_2_code 65 = .ok (.if_icmp .ne 14, 3) := by decide +kernel
theorem d6_68 : decode prog_145_method_2_code 68 = .ok (.aload_n 0, 1) := by decide +kernel
theorem d6_69 : decode prog_145_method_2_code 69 = .ok (.getfield 13, 3) := by decide +kernel
theorem d6_72 : decode prog_145_method_2_code 72 = .ok (.ifCond .eq 7, 3) := by decide +kernel
theorem d6_75 : decode prog_145_method_2_code 75 = .ok (.iconst 1, 1) := by decide +kernel
theorem d6_76 : decode prog_145_method_2_code 76 = .ok (.goto 4, 3) := by decide +kernel
theorem d6_79 : decode prog_145_method_2_code 79 = .ok (.iconst 0, 1) := by decide +kernel
theorem d6_80 : decode prog_145_method_2_code 80 = .ok (.istore 5, 2) := by decide +kernel
theorem d6_82 : decode prog_145_method_2_code 82 = .ok (.iload 5, 2) := by decide +kernel
theorem d6_84 : decode prog_145_method_2_code 84 = .ok (.ifCond .eq 12, 3) := by decide +kernel
theorem d6_87 : decode prog_145_method_2_code 87 = .ok (.aload_n 0, 1) := by decide +kernel
theorem d6_88 : decode prog_145_method_2_code 88 = .ok (.getfield 17, 3) := by decide +kernel
theorem d6_91 : decode prog_145_method_2_code 91 = .ok (.ifCond .eq 5, 3) := by decide +kernel
theorem d6_94 : decode prog_145_method_2_code 94 = .ok (.iconst 1, 1) := by decide +kernel
theorem d6_95 : decode prog_145_method_2_code 95 = .ok (.ireturn, 1) := by decide +kernel
theorem d6_96 : decode prog_145_method_2_code 96 = .ok (.aload_n 0, 1) := by decide +kernel
theorem d6_97 : decode prog_145_method_2_code 97 = .ok (.dup, 1) := by decide +kernel
theorem d6_98 : decode prog_145_method_2_code 98 = .ok (.getfield 17, 3) := by decide +kernel
theorem d6_101 : decode prog_145_method_2_code 101 = .ok (.iload 5, 2) := by decide +kernel
theorem d6_103 : decode prog_145_method_2_code 103 = .ok (.ifCond .ne 7, 3) := by decide +kernel
theorem d6_106 : decode prog_145_method_2_code 106 = .ok (.iconst 1, 1) := by decide +kernel
theorem d6_107 : decode prog_145_method_2_code 107 = .ok (.goto 4, 3) := by decide +kernel
theorem d6_110 : decode prog_145_method_2_code 110 = .ok (.iconst 0, 1) := by decide +kernel
theorem d6_111 : decode prog_145_method_2_code 111 = .ok (.ior, 1) := by decide +kernel
theorem d6_112 : decode prog_145_method_2_code 112 = .ok (.putfield 17, 3) := by decide +kernel
theorem d6_115 : decode prog_145_method_2_code 115 = .ok (.aload_n 0, 1) := by decide +kernel
theorem d6_116 : decode prog_145_method_2_code 116 = .ok (.iconst 0, 1) := by decide +kernel
theorem d6_117 : decode prog_145_method_2_code 117 = .ok (.putfield 7, 3) := by decide +kernel
theorem d6_120 : decode prog_145_method_2_code 120 = .ok (.iinc 4 1, 3) := by decide +kernel
theorem d6_123 : decode prog_145_method_2_code 123 = .ok (.goto (-120), 3) := by decide +kernel
theorem d6_126 : decode prog_145_method_2_code 126 = .ok (.iconst 0, 1) := by decide +kernel
theorem d6_127 : decode prog_145_method_2_code 127 = .ok (.ireturn, 1) := by decide +kernel
theorem ef_6 (m : MethodId) (r0 : Addr) (r1 : Addr) (p2 : Int32) (p3 : Int32) : entryFrame m #[(.ref r0), (.ref r1), (.int p2), (.int p3)] 6 = mkF m 0 #[.val (.ref r0), .val (.ref r1), .val (.int p2), .val (.int p3), .unset, .unset] [] := by first | (simp [entryFrame, mkF, argsToLocals, Value.category]; done) | rfl
def m6_80_s0 (lb : Int32) (cr : Int32) : Int32 := (if lb = (0 : Int32) then (1 : Int32) else (if lb = (1 : Int32) then (if cr = (0 : Int32) then (0 : Int32) else (1 : Int32)) else (0 : Int32)))
def m6_47_s0 (B1 : Nat → Int32) (i : Int32) : Int32 := (if (B1 (i).toNatClampNeg) = (13 : Int32) then (1 : Int32) else (0 : Int32))
def endsF (B1 : Nat → Int32) : Nat → Int32 → Int32 → Int32 → Int32 → Int32 × Int32 × Int32 × Int32
  | 0, i, lb, cr, rl => ((0 : Int32), lb, cr, rl)
  | k + 1, i, lb, cr, rl => (if (B1 (i).toNatClampNeg) = (10 : Int32) then (if (m6_80_s0 lb cr) = (0 : Int32) then endsF B1 k (i + (1 : Int32)) (0 : Int32) cr ((rl ||| (1 : Int32)) &&& 1) else (if rl = (0 : Int32) then endsF B1 k (i + (1 : Int32)) (0 : Int32) cr ((rl ||| (0 : Int32)) &&& 1) else ((1 : Int32), lb, cr, rl))) else (if lb = (0 : Int32) then endsF B1 k (i + (1 : Int32)) (lb + (1 : Int32)) ((m6_47_s0 B1 i) &&& 1) rl else endsF B1 k (i + (1 : Int32)) (lb + (1 : Int32)) cr rl))
theorem own_endsF_zero (B1 : Nat → Int32) (i : Int32) (lb : Int32) (cr : Int32) (rl : Int32) : endsF B1 0 i lb cr rl = ((0 : Int32), lb, cr, rl) := by unfold endsF; rfl
theorem own_endsF_succ (B1 : Nat → Int32) (k : Nat) (i : Int32) (lb : Int32) (cr : Int32) (rl : Int32) : endsF B1 (k + 1) i lb cr rl = (if (B1 (i).toNatClampNeg) = (10 : Int32) then (if (m6_80_s0 lb cr) = (0 : Int32) then endsF B1 k (i + (1 : Int32)) (0 : Int32) cr ((rl ||| (1 : Int32)) &&& 1) else (if rl = (0 : Int32) then endsF B1 k (i + (1 : Int32)) (0 : Int32) cr ((rl ||| (0 : Int32)) &&& 1) else ((1 : Int32), lb, cr, rl))) else (if lb = (0 : Int32) then endsF B1 k (i + (1 : Int32)) (lb + (1 : Int32)) ((m6_47_s0 B1 i) &&& 1) rl else endsF B1 k (i + (1 : Int32)) (lb + (1 : Int32)) cr rl)) := by conv => lhs; unfold endsF
def QL6 (Z : State) (r0 : Addr) (r1 : Addr) (p2 : Int32) (p3 : Int32) (u_lineBytes : Int32) (u_crFirst : Int32) (u_requestLine : Int32) (B1 : Nat → Int32) (R : Int32 × Int32 × Int32 × Int32) (h0 : Heap) (n0 : Nat) (v : Option Value) (h : Heap) (L : List Loc) : Prop := v = some (.int R.1) ∧ Fr n0 L ∧ Keep h0 h [r0] ∧ Exa Z h r0 "com/example/dosewire/dosewire/server/net/RequestHead$End" ∧ Fld Z h r0 "com/example/dosewire/dosewire/server/net/RequestHead$End" "lineBytes" "I" (.int R.2.1) ∧ Fld Z h r0 "com/example/dosewire/dosewire/server/net/RequestHead$End" "crFirst" "Z" (.int R.2.2.1) ∧ Fld Z h r0 "com/example/dosewire/dosewire/server/net/RequestHead$End" "requestLine" "Z" (.int R.2.2.2)
def Q6 (Z : State) (r0 : Addr) (r1 : Addr) (p2 : Int32) (p3 : Int32) (u_lineBytes : Int32) (u_crFirst : Int32) (u_requestLine : Int32) (B1 : Nat → Int32) (h0 : Heap) (n0 : Nat) (v : Option Value) (h : Heap) (L : List Loc) : Prop := QL6 Z r0 r1 p2 p3 u_lineBytes u_crFirst u_requestLine B1 (endsF B1 (p3.toInt - p2.toInt).toNat p2 u_lineBytes u_crFirst u_requestLine) h0 n0 v h L
set_option maxRecDepth 65536 in
set_option maxHeartbeats 40000000 in
theorem rm6 (l : Launch) (Z : State) (a0 : Array Value) (hw : ∀ d ∈ tables_1, d.before a0 Z = true) (ws : List Jvm.Cond) (r0 : Addr) (r1 : Addr) (p2 : Int32) (p3 : Int32) (u_lineBytes : Int32) (u_crFirst : Int32) (u_requestLine : Int32) (B1 : Nat → Int32) (h0 : Heap) (n0 : Nat) (Z0 : n0 ≤ h0.size) (g_r0 : n0 ≤ r0) (E_r0 : Exa Z h0 r0 "com/example/dosewire/dosewire/server/net/RequestHead$End") (F_lineBytes : Fld Z h0 r0 "com/example/dosewire/dosewire/server/net/RequestHead$End" "lineBytes" "I" (.int u_lineBytes)) (F_crFirst : Fld Z h0 r0 "com/example/dosewire/dosewire/server/net/RequestHead$End" "crFirst" "Z" (.int u_crFirst)) (F_requestLine : Fld Z h0 r0 "com/example/dosewire/dosewire/server/net/RequestHead$End" "requestLine" "Z" (.int u_requestLine)) (V_r1 : own_By Z h0 r1 6 B1) (ne01 : r0 ≠ r1) (hp : 0 ≤ p2.toInt ∧ p2.toInt ≤ p3.toInt ∧ p3.toInt ≤ 6) :
    MetFree l (⟨"com/example/dosewire/dosewire/server/net/RequestHead$End", "endsIn", "([BII)Z"⟩ : MethodName) (head1 (Jvm.Cond.code (⟨"com/example/dosewire/dosewire/server/net/RequestHead$End", "endsIn", "([BII)Z"⟩ : MethodName) prog_145_method_2_code 6 (some .boolean) :: ws) ({ frames := 0, cells := 0, slots := 0, locals := 0 } : Room)) (fun a U => a = #[(.ref r0), (.ref r1), (.int p2), (.int p3)] ∧ Z.Warmed39 U.vm ∧ U.heap = h0) (fun _ _ _ _ _ => True) (fun _ U o U' => ∃ v L, o = .returned v ∧ Q6 Z r0 r1 p2 p3 u_lineBytes u_crFirst u_requestLine B1 h0 n0 v U'.heap L ∧ FrameEnd U o U' L ({ frames := 0, cells := 0, slots := 0, locals := 0 } : Room).cells ({ frames := 0, cells := 0, slots := 0, locals := 0 } : Room).slots) := by
  refine MetFree.of_bodySF (plainFor_of_name pn_1) hisR ?_
  intro p e s m args below meth c s₁ Bd hml0 hP hK
  obtain ⟨rfl, hZ, hh⟩ := hP
  have hx := Bd.exec
  have hby := Bd.bytes
  have hml : c.maxLocals = 6 := hml0
  have hown : s.vm.findClass "com/example/dosewire/dosewire/server/net/RequestHead$End" = some m.cls := findClass_of_methodNamed Bd.named
  have hnm := (name_of_methodNamed Bd.named Bd.method).1
  have X0 : Stand p l e ({ frames := 0, cells := 0, slots := 0, locals := 0 } : Room) s m #[(.ref r0), (.ref r1), (.int p2), (.int p3)] below meth c s₁ [] 0 0 := Stand.of_body Bd
  have e0 : s₁.heap = h0 := by rw [← hh, Bd.state]; rfl
  have N0 := Fr.nil n0
  have K0 : Keep h0 h0 [r0] := Keep.refl h0 _
  have pre0 : own_Go p e below (s₁.setTop (entryFrame m #[(.ref r0), (.ref r1), (.int p2), (.int p3)] 6)) (s₁.setTop (mkF m 0 #[.val (.ref r0), .val (.ref r1), .val (.int p2), .val (.int p3), .unset, .unset] [])) := fun t k => castTop (ef_6 m r0 r1 p2 p3) k
  have k1 : own_Go p e below (s₁.setTop (entryFrame m #[(.ref r0), (.ref r1), (.int p2), (.int p3)] 6)) (s₁.setTop (mkF m 3 #[.val (.ref r0), .val (.ref r1), .val (.int p2), .val (.int p3), .val (.int p2), .unset] [])) := by
    intro t k
    refine pre0 t ?_
    show Steps p.tables e below (s₁.setTop (mkF m 0 #[.val (.ref r0), .val (.ref r1), .val (.int p2), .val (.int p3), .unset, .unset] [])) t
    refine XS.iloadN X0.here hx rfl (hb hby d6_0) rfl ?_
    show Steps p.tables e below (s₁.setTop (mkF m 1 #[.val (.ref r0), .val (.ref r1), .val (.int p2), .val (.int p3), .unset, .unset] [(.int p2)])) t
    refine XS.istore X0.here hx rfl (hb hby d6_1) rfl (l' := #[.val (.ref r0), .val (.ref r1), .val (.int p2), .val (.int p3), .val (.int p2), .unset]) rfl ?_
    exact k
  have ne_r0_r1 : r0 ≠ r1 := ne01
  have Hl : ∀ (k : Nat) (i : Int32) (lb : Int32) (cr : Int32) (rl : Int32) (s5 : Slot) (Tl : State) (Ll : List Loc) (hl : Heap), Stand p l e ({ frames := 0, cells := 0, slots := 0, locals := 0 } : Room) s m #[(.ref r0), (.ref r1), (.int p2), (.int p3)] below meth c Tl Ll 0 0 → Tl.heap = hl → Fr n0 Ll → n0 ≤ hl.size → One s5 → Exa Z hl r0 "com/example/dosewire/dosewire/server/net/RequestHead$End" → Fld Z hl r0 "com/example/dosewire/dosewire/server/net/RequestHead$End" "lineBytes" "I" (.int lb) → Fld Z hl r0 "com/example/dosewire/dosewire/server/net/RequestHead$End" "crFirst" "Z" (.int cr) → Fld Z hl r0 "com/example/dosewire/dosewire/server/net/RequestHead$End" "requestLine" "Z" (.int rl) → own_By Z hl r1 6 B1 → Keep h0 hl [r0] → (0 ≤ i.toInt ∧ i.toInt + (k : Int) = p3.toInt ∧ p3.toInt ≤ 6) → own_Go p e below (s₁.setTop (entryFrame m #[(.ref r0), (.ref r1), (.int p2), (.int p3)] 6)) (Tl.setTop (mkF m 3 #[.val (.ref r0), .val (.ref r1), .val (.int p2), .val (.int p3), .val (.int i), s5] [])) →
      ∃ s₂ o, Steps p.tables e below (s₁.setTop (entryFrame m #[(.ref r0), (.ref r1), (.int p2), (.int p3)] 6)) s₂ ∧ s₂.status = .running ∧ Ended s₂ below o ∧ ∃ v L, o = .returned v ∧ QL6 Z r0 r1 p2 p3 u_lineBytes u_crFirst u_requestLine B1 (endsF B1 k i lb cr rl) h0 n0 v s₂.heap L ∧ FrameEnd s o s₂ L ({ frames := 0, cells := 0, slots := 0, locals := 0 } : Room).cells ({ frames := 0, cells := 0, slots := 0, locals := 0 } : Room).slots := by
    intro k
    induction k with
    | zero =>
      intro i lb cr rl s5 Tl Ll hl Xl el Nl Zl hs_s5 fl_0 fl_1 fl_2 fl_3 fl_4 Kl hI kl
      have k2 : own_Go p e below (s₁.setTop (entryFrame m #[(.ref r0), (.ref r1), (.int p2), (.int p3)] 6)) (Tl.setTop (mkF m 127 #[.val (.ref r0), .val (.ref r1), .val (.int p2), .val (.int p3), .val (.int i), s5] [(.int (0 : Int32))])) := by
        intro t k
        refine kl t ?_
        show Steps p.tables e below (Tl.setTop (mkF m 3 #[.val (.ref r0), .val (.ref r1), .val (.int p2), .val (.int p3), .val (.int i), s5] [])) t
        refine XS.iload Xl.here hx rfl (hb hby d6_3) rfl ?_
        show Steps p.tables e below (Tl.setTop (mkF m 5 #[.val (.ref r0), .val (.ref r1), .val (.int p2), .val (.int p3), .val (.int i), s5] [(.int i)])) t
        refine XS.iloadN Xl.here hx rfl (hb hby d6_5) rfl ?_
        show Steps p.tables e below (Tl.setTop (mkF m 6 #[.val (.ref r0), .val (.ref r1), .val (.int p2), .val (.int p3), .val (.int i), s5] [(.int p3), (.int i)])) t
        refine XS.icmpYes Xl.here hx rfl (pc0 := 6) (pc' := 126) rfl (hb hby d6_6) rfl (flt (own_out hI)).2.1 (by decide) (by decide) ?_
        show Steps p.tables e below (Tl.setTop (mkF m 126 #[.val (.ref r0), .val (.ref r1), .val (.int p2), .val (.int p3), .val (.int i), s5] [])) t
        refine XS.iconst Xl.here hx rfl (hb hby d6_126) ?_
        exact k
      obtain ⟨fs, hr, hrun, hended, hW, hsame⟩ := Xl.leave (v := some (.int (0 : Int32))) (fun h => by rw [Bd.returns] at h; cases h)
      refine ⟨_, _, k2 _ ?_, hrun, hended, _, _, rfl, ?_, ⟨_, rfl⟩, hW, hsame.mono (by decide) (by decide)⟩
      · exact retN Xl hx (t := .boolean) Bd.returns (by simp) (hb hby d6_127) hr
      · show QL6 Z r0 r1 p2 p3 u_lineBytes u_crFirst u_requestLine B1 (endsF B1 0 i lb cr rl) h0 n0 _ Tl.heap _
        rw [el]
        rw [show endsF B1 0 i lb cr rl = ((0 : Int32), lb, cr, rl) from (by rw [own_endsF_zero])]
        exact ⟨rfl, Nl, Kl, fl_0, fl_1, fl_2, fl_3⟩
    | succ k ih =>
      intro i lb cr rl s5 Tl Ll hl Xl el Nl Zl hs_s5 fl_0 fl_1 fl_2 fl_3 fl_4 Kl hI kl
      have k3 : own_Go p e below (s₁.setTop (entryFrame m #[(.ref r0), (.ref r1), (.int p2), (.int p3)] 6)) (Tl.setTop (mkF m 15 #[.val (.ref r0), .val (.ref r1), .val (.int p2), .val (.int p3), .val (.int i), s5] [(.int (10 : Int32)), (.int (B1 (i).toNatClampNeg))])) := by
        intro t k
        refine kl t ?_
        show Steps p.tables e below (Tl.setTop (mkF m 3 #[.val (.ref r0), .val (.ref r1), .val (.int p2), .val (.int p3), .val (.int i), s5] [])) t
        refine XS.iload Xl.here hx rfl (hb hby d6_3) rfl ?_
        show Steps p.tables e below (Tl.setTop (mkF m 5 #[.val (.ref r0), .val (.ref r1), .val (.int p2), .val (.int p3), .val (.int i), s5] [(.int i)])) t
        refine XS.iloadN Xl.here hx rfl (hb hby d6_5) rfl ?_
        show Steps p.tables e below (Tl.setTop (mkF m 6 #[.val (.ref r0), .val (.ref r1), .val (.int p2), .val (.int p3), .val (.int i), s5] [(.int p3), (.int i)])) t
        refine XS.icmpNo Xl.here hx rfl (hb hby d6_6) rfl (tlt (own_in hI)).2.1 ?_
        show Steps p.tables e below (Tl.setTop (mkF m 9 #[.val (.ref r0), .val (.ref r1), .val (.int p2), .val (.int p3), .val (.int i), s5] [])) t
        refine XS.aloadN Xl.here hx rfl (hb hby d6_9) rfl rfl ?_
        show Steps p.tables e below (Tl.setTop (mkF m 10 #[.val (.ref r0), .val (.ref r1), .val (.int p2), .val (.int p3), .val (.int i), s5] [(.ref r1)])) t
        refine XS.iload Xl.here hx rfl (hb hby d6_10) rfl ?_
        show Steps p.tables e below (Tl.setTop (mkF m 12 #[.val (.ref r0), .val (.ref r1), .val (.int p2), .val (.int p3), .val (.int i), s5] [(.int i), (.ref r1)])) t
        refine own_bld Xl hx hZ el fl_4 (j := i) (own_at hI).1 (own_at hI).2 (g := (mkF m 12 #[.val (.ref r0), .val (.ref r1), .val (.int p2), .val (.int p3), .val (.int i), s5] [(.int i), (.ref r1)])) rfl rfl (hb hby d6_12) _ ?_
        show Steps p.tables e below (Tl.setTop (mkF m 13 #[.val (.ref r0), .val (.ref r1), .val (.int p2), .val (.int p3), .val (.int i), s5] [(.int (B1 (i).toNatClampNeg))])) t
        refine XS.bipush Xl.here hx rfl (hb hby d6_13) ?_
        exact k
      by_cases hc15_4 : (B1 (i).toNatClampNeg) = (10 : Int32)
      · have k5 : own_Go p e below (s₁.setTop (entryFrame m #[(.ref r0), (.ref r1), (.int p2), (.int p3)] 6)) (Tl.setTop (mkF m 54 #[.val (.ref r0), .val (.ref r1), .val (.int p2), .val (.int p3), .val (.int i), s5] [(.ref r0)])) := by
          intro t k
          refine k3 t ?_
          show Steps p.tables e below (Tl.setTop (mkF m 15 #[.val (.ref r0), .val (.ref r1), .val (.int p2), .val (.int p3), .val (.int i), s5] [(.int (10 : Int32)), (.int (B1 (i).toNatClampNeg))])) t
          refine XS.icmpYes Xl.here hx rfl (pc0 := 15) (pc' := 53) rfl (hb hby d6_15) rfl (teq hc15_4).1 (by decide) (by decide) ?_
          show Steps p.tables e below (Tl.setTop (mkF m 53 #[.val (.ref r0), .val (.ref r1), .val (.int p2), .val (.int p3), .val (.int i), s5] [])) t
          refine XS.aloadN Xl.here hx rfl (hb hby d6_53) rfl rfl ?_
          exact k
        obtain ⟨T6, X6, e6, st6⟩ := getF Xl hx hZ hown (host := "") (Or.inl (hw _ (List.mem_of_getElem? (i := 27) rfl))) Via.refl el fl_1 (g := (mkF m 54 #[.val (.ref r0), .val (.ref r1), .val (.int p2), .val (.int p3), .val (.int i), s5] [(.ref r0)])) rfl rfl (hb hby d6_54)
        have k7 : own_Go p e below (s₁.setTop (entryFrame m #[(.ref r0), (.ref r1), (.int p2), (.int p3)] 6)) (T6.setTop (mkF m 57 #[.val (.ref r0), .val (.ref r1), .val (.int p2), .val (.int p3), .val (.int i), s5] [(.int lb)])) := fun t k => k5 t (st6 t k)
        obtain ⟨T8, L8, X8, e8, N8, k8⟩ : ∃ (T8 : State) (L8 : List Loc), Stand p l e ({ frames := 0, cells := 0, slots := 0, locals := 0 } : Room) s m #[(.ref r0), (.ref r1), (.int p2), (.int p3)] below meth c T8 L8 0 0 ∧ T8.heap = hl ∧ Fr n0 L8 ∧ own_Go p e below (s₁.setTop (entryFrame m #[(.ref r0), (.ref r1), (.int p2), (.int p3)] 6)) (T8.setTop (mkF m 80 #[.val (.ref r0), .val (.ref r1), .val (.int p2), .val (.int p3), .val (.int i), s5] [(.int (m6_80_s0 lb cr))])) := by
          by_cases hc57_9 : lb = (0 : Int32)
          · have k10 : own_Go p e below (s₁.setTop (entryFrame m #[(.ref r0), (.ref r1), (.int p2), (.int p3)] 6)) (T6.setTop (mkF m 80 #[.val (.ref r0), .val (.ref r1), .val (.int p2), .val (.int p3), .val (.int i), s5] [(.int (1 : Int32))])) := by
              intro t k
              refine k7 t ?_
              show Steps p.tables e below (T6.setTop (mkF m 57 #[.val (.ref r0), .val (.ref r1), .val (.int p2), .val (.int p3), .val (.int i), s5] [(.int lb)])) t
              refine XS.ifYes X6.here hx rfl (pc0 := 57) (pc' := 75) rfl (hb hby d6_57) rfl ((if0 _ _).trans (teq hc57_9).1) (by decide) (by decide) ?_
              show Steps p.tables e below (T6.setTop (mkF m 75 #[.val (.ref r0), .val (.ref r1), .val (.int p2), .val (.int p3), .val (.int i), s5] [])) t
              refine XS.iconst X6.here hx rfl (hb hby d6_75) ?_
              show Steps p.tables e below (T6.setTop (mkF m 76 #[.val (.ref r0), .val (.ref r1), .val (.int p2), .val (.int p3), .val (.int i), s5] [(.int (1 : Int32))])) t
              refine XS.goto X6.here hx rfl (pc0 := 76) (pc' := 80) rfl (hb hby d6_76) (by decide) (by decide) ?_
              exact k
            exact ⟨_, _, X6, e6, Nl, (by rw [show (m6_80_s0 lb cr) = (1 : Int32) from (by unfold m6_80_s0; rw [if_pos hc57_9])]; exact k10)⟩
          · have k11 : own_Go p e below (s₁.setTop (entryFrame m #[(.ref r0), (.ref r1), (.int p2), (.int p3)] 6)) (T6.setTop (mkF m 61 #[.val (.ref r0), .val (.ref r1), .val (.int p2), .val (.int p3), .val (.int i), s5] [(.ref r0)])) := by
              intro t k
              refine k7 t ?_
              show Steps p.tables e below (T6.setTop (mkF m 57 #[.val (.ref r0), .val (.ref r1), .val (.int p2), .val (.int p3), .val (.int i), s5] [(.int lb)])) t
              refine XS.ifNo X6.here hx rfl (hb hby d6_57) rfl ((if0 _ _).trans (feq hc57_9).1) ?_
              show Steps p.tables e below (T6.setTop (mkF m 60 #[.val (.ref r0), .val (.ref r1), .val (.int p2), .val (.int p3), .val (.int i), s5] [])) t
              refine XS.aloadN X6.here hx rfl (hb hby d6_60) rfl rfl ?_
              exact k
            obtain ⟨T12, X12, e12, st12⟩ := getF X6 hx hZ hown (host := "") (Or.inl (hw _ (List.mem_of_getElem? (i := 27) rfl))) Via.refl e6 fl_1 (g := (mkF m 61 #[.val (.ref r0), .val (.ref r1), .val (.int p2), .val (.int p3), .val (.int i), s5] [(.ref r0)])) rfl rfl (hb hby d6_61)
            have k13 : own_Go p e below (s₁.setTop (entryFrame m #[(.ref r0), (.ref r1), (.int p2), (.int p3)] 6)) (T12.setTop (mkF m 64 #[.val (.ref r0), .val (.ref r1), .val (.int p2), .val (.int p3), .val (.int i), s5] [(.int lb)])) := fun t k => k11 t (st12 t k)
            have k14 : own_Go p e below (s₁.setTop (entryFrame m #[(.ref r0), (.ref r1), (.int p2), (.int p3)] 6)) (T12.setTop (mkF m 65 #[.val (.ref r0), .val (.ref r1), .val (.int p2), .val (.int p3), .val (.int i), s5] [(.int (1 : Int32)), (.int lb)])) := by
              intro t k
              refine k13 t ?_
              show Steps p.tables e below (T12.setTop (mkF m 64 #[.val (.ref r0), .val (.ref r1), .val (.int p2), .val (.int p3), .val (.int i), s5] [(.int lb)])) t
              refine XS.iconst X12.here hx rfl (hb hby d6_64) ?_
              exact k
            by_cases hc65_15 : lb = (1 : Int32)
            · have k16 : own_Go p e below (s₁.setTop (entryFrame m #[(.ref r0), (.ref r1), (.int p2), (.int p3)] 6)) (T12.setTop (mkF m 69 #[.val (.ref r0), .val (.ref r1), .val (.int p2), .val (.int p3), .val (.int i), s5] [(.ref r0)])) := by
                intro t k
                refine k14 t ?_
                show Steps p.tables e below (T12.setTop (mkF m 65 #[.val (.ref r0), .val (.ref r1), .val (.int p2), .val (.int p3), .val (.int i), s5] [(.int (1 : Int32)), (.int lb)])) t
                refine XS.icmpNo X12.here hx rfl (hb hby d6_65) rfl (teq hc65_15).2 ?_
                show Steps p.tables e below (T12.setTop (mkF m 68 #[.val (.ref r0), .val (.ref r1), .val (.int p2), .val (.int p3), .val (.int i), s5] [])) t
                refine XS.aloadN X12.here hx rfl (hb hby d6_68) rfl rfl ?_
                exact k
              obtain ⟨T17, X17, e17, st17⟩ := getF X12 hx hZ hown (host := "") (Or.inl (hw _ (List.mem_of_getElem? (i := 29) rfl))) Via.refl e12 fl_2 (g := (mkF m 69 #[.val (.ref r0), .val (.ref r1), .val (.int p2), .val (.int p3), .val (.int i), s5] [(.ref r0)])) rfl rfl (hb hby d6_69)
              have k18 : own_Go p e below (s₁.setTop (entryFrame m #[(.ref r0), (.ref r1), (.int p2), (.int p3)] 6)) (T17.setTop (mkF m 72 #[.val (.ref r0), .val (.ref r1), .val (.int p2), .val (.int p3), .val (.int i), s5] [(.int cr)])) := fun t k => k16 t (st17 t k)
              by_cases hc72_19 : cr = (0 : Int32)
              · have k20 : own_Go p e below (s₁.setTop (entryFrame m #[(.ref r0), (.ref r1), (.int p2), (.int p3)] 6)) (T17.setTop (mkF m 80 #[.val (.ref r0), .val (.ref r1), .val (.int p2), .val (.int p3), .val (.int i), s5] [(.int (0 : Int32))])) := by
                  intro t k
                  refine k18 t ?_
                  show Steps p.tables e below (T17.setTop (mkF m 72 #[.val (.ref r0), .val (.ref r1), .val (.int p2), .val (.int p3), .val (.int i), s5] [(.int cr)])) t
                  refine XS.ifYes X17.here hx rfl (pc0 := 72) (pc' := 79) rfl (hb hby d6_72) rfl ((if0 _ _).trans (teq hc72_19).1) (by decide) (by decide) ?_
                  show Steps p.tables e below (T17.setTop (mkF m 79 #[.val (.ref r0), .val (.ref r1), .val (.int p2), .val (.int p3), .val (.int i), s5] [])) t
                  refine XS.iconst X17.here hx rfl (hb hby d6_79) ?_
                  exact k
                exact ⟨_, _, X17, e17, Nl, (by rw [show (m6_80_s0 lb cr) = (0 : Int32) from (by unfold m6_80_s0; rw [if_neg hc57_9, if_pos hc65_15, if_pos hc72_19])]; exact k20)⟩
              · have k21 : own_Go p e below (s₁.setTop (entryFrame m #[(.ref r0), (.ref r1), (.int p2), (.int p3)] 6)) (T17.setTop (mkF m 80 #[.val (.ref r0), .val (.ref r1), .val (.int p2), .val (.int p3), .val (.int i), s5] [(.int (1 : Int32))])) := by
                  intro t k
                  refine k18 t ?_
                  show Steps p.tables e below (T17.setTop (mkF m 72 #[.val (.ref r0), .val (.ref r1), .val (.int p2), .val (.int p3), .val (.int i), s5] [(.int cr)])) t
                  refine XS.ifNo X17.here hx rfl (hb hby d6_72) rfl ((if0 _ _).trans (feq hc72_19).1) ?_
                  show Steps p.tables e below (T17.setTop (mkF m 75 #[.val (.ref r0), .val (.ref r1), .val (.int p2), .val (.int p3), .val (.int i), s5] [])) t
                  refine XS.iconst X17.here hx rfl (hb hby d6_75) ?_
                  show Steps p.tables e below (T17.setTop (mkF m 76 #[.val (.ref r0), .val (.ref r1), .val (.int p2), .val (.int p3), .val (.int i), s5] [(.int (1 : Int32))])) t
                  refine XS.goto X17.here hx rfl (pc0 := 76) (pc' := 80) rfl (hb hby d6_76) (by decide) (by decide) ?_
                  exact k
                exact ⟨_, _, X17, e17, Nl, (by rw [show (m6_80_s0 lb cr) = (1 : Int32) from (by unfold m6_80_s0; rw [if_neg hc57_9, if_pos hc65_15, if_neg hc72_19])]; exact k21)⟩
            · have k22 : own_Go p e below (s₁.setTop (entryFrame m #[(.ref r0), (.ref r1), (.int p2), (.int p3)] 6)) (T12.setTop (mkF m 80 #[.val (.ref r0), .val (.ref r1), .val (.int p2), .val (.int p3), .val (.int i), s5] [(.int (0 : Int32))])) := by
                intro t k
                refine k14 t ?_
                show Steps p.tables e below (T12.setTop (mkF m 65 #[.val (.ref r0), .val (.ref r1), .val (.int p2), .val (.int p3), .val (.int i), s5] [(.int (1 : Int32)), (.int lb)])) t
                refine XS.icmpYes X12.here hx rfl (pc0 := 65) (pc' := 79) rfl (hb hby d6_65) rfl (feq hc65_15).2 (by decide) (by decide) ?_
                show Steps p.tables e below (T12.setTop (mkF m 79 #[.val (.ref r0), .val (.ref r1), .val (.int p2), .val (.int p3), .val (.int i), s5] [])) t
                refine XS.iconst X12.here hx rfl (hb hby d6_79) ?_
                exact k
              exact ⟨_, _, X12, e12, Nl, (by rw [show (m6_80_s0 lb cr) = (0 : Int32) from (by unfold m6_80_s0; rw [if_neg hc57_9, if_neg hc65_15])]; exact k22)⟩
        have k23 : own_Go p e below (s₁.setTop (entryFrame m #[(.ref r0), (.ref r1), (.int p2), (.int p3)] 6)) (T8.setTop (mkF m 84 #[.val (.ref r0), .val (.ref r1), .val (.int p2), .val (.int p3), .val (.int i), .val (.int (m6_80_s0 lb cr))] [(.int (m6_80_s0 lb cr))])) := by
          intro t k
          refine k8 t ?_
          show Steps p.tables e below (T8.setTop (mkF m 80 #[.val (.ref r0), .val (.ref r1), .val (.int p2), .val (.int p3), .val (.int i), s5] [(.int (m6_80_s0 lb cr))])) t
          refine XS.istore X8.here hx rfl (hb hby d6_80) rfl (l' := #[.val (.ref r0), .val (.ref r1), .val (.int p2), .val (.int p3), .val (.int i), .val (.int (m6_80_s0 lb cr))]) (own_os5 hs_s5) ?_
          show Steps p.tables e below (T8.setTop (mkF m 82 #[.val (.ref r0), .val (.ref r1), .val (.int p2), .val (.int p3), .val (.int i), .val (.int (m6_80_s0 lb cr))] [])) t
          refine XS.iload X8.here hx rfl (hb hby d6_82) rfl ?_
          exact k
        by_cases hc84_24 : (m6_80_s0 lb cr) = (0 : Int32)
        · have k25 : own_Go p e below (s₁.setTop (entryFrame m #[(.ref r0), (.ref r1), (.int p2), (.int p3)] 6)) (T8.setTop (mkF m 98 #[.val (.ref r0), .val (.ref r1), .val (.int p2), .val (.int p3), .val (.int i), .val (.int (m6_80_s0 lb cr))] [(.ref r0), (.ref r0)])) := by
            intro t k
            refine k23 t ?_
            show Steps p.tables e below (T8.setTop (mkF m 84 #[.val (.ref r0), .val (.ref r1), .val (.int p2), .val (.int p3), .val (.int i), .val (.int (m6_80_s0 lb cr))] [(.int (m6_80_s0 lb cr))])) t
            refine XS.ifYes X8.here hx rfl (pc0 := 84) (pc' := 96) rfl (hb hby d6_84) rfl ((if0 _ _).trans (teq hc84_24).1) (by decide) (by decide) ?_
            show Steps p.tables e below (T8.setTop (mkF m 96 #[.val (.ref r0), .val (.ref r1), .val (.int p2), .val (.int p3), .val (.int i), .val (.int (m6_80_s0 lb cr))] [])) t
            refine XS.aloadN X8.here hx rfl (hb hby d6_96) rfl rfl ?_
            show Steps p.tables e below (T8.setTop (mkF m 97 #[.val (.ref r0), .val (.ref r1), .val (.int p2), .val (.int p3), .val (.int i), .val (.int (m6_80_s0 lb cr))] [(.ref r0)])) t
            refine XS.dup X8.here hx rfl (hb hby d6_97) rfl rfl ?_
            exact k
          obtain ⟨T26, X26, e26, st26⟩ := getF X8 hx hZ hown (host := "") (Or.inl (hw _ (List.mem_of_getElem? (i := 31) rfl))) Via.refl e8 fl_3 (g := (mkF m 98 #[.val (.ref r0), .val (.ref r1), .val (.int p2), .val (.int p3), .val (.int i), .val (.int (m6_80_s0 lb cr))] [(.ref r0), (.ref r0)])) rfl rfl (hb hby d6_98)
          have k27 : own_Go p e below (s₁.setTop (entryFrame m #[(.ref r0), (.ref r1), (.int p2), (.int p3)] 6)) (T26.setTop (mkF m 101 #[.val (.ref r0), .val (.ref r1), .val (.int p2), .val (.int p3), .val (.int i), .val (.int (m6_80_s0 lb cr))] [(.int rl), (.ref r0)])) := fun t k => k25 t (st26 t k)
          have k28 : own_Go p e below (s₁.setTop (entryFrame m #[(.ref r0), (.ref r1), (.int p2), (.int p3)] 6)) (T26.setTop (mkF m 112 #[.val (.ref r0), .val (.ref r1), .val (.int p2), .val (.int p3), .val (.int i), .val (.int (m6_80_s0 lb cr))] [(.int (rl ||| (1 : Int32))), (.ref r0)])) := by
            intro t k
            refine k27 t ?_
            show Steps p.tables e below (T26.setTop (mkF m 101 #[.val (.ref r0), .val (.ref r1), .val (.int p2), .val (.int p3), .val (.int i), .val (.int (m6_80_s0 lb cr))] [(.int rl), (.ref r0)])) t
            refine XS.iload X26.here hx rfl (hb hby d6_101) rfl ?_
            show Steps p.tables e below (T26.setTop (mkF m 103 #[.val (.ref r0), .val (.ref r1), .val (.int p2), .val (.int p3), .val (.int i), .val (.int (m6_80_s0 lb cr))] [(.int (m6_80_s0 lb cr)), (.int rl), (.ref r0)])) t
            refine XS.ifNo X26.here hx rfl (hb hby d6_103) rfl ((if0 _ _).trans (teq hc84_24).2) ?_
            show Steps p.tables e below (T26.setTop (mkF m 106 #[.val (.ref r0), .val (.ref r1), .val (.int p2), .val (.int p3), .val (.int i), .val (.int (m6_80_s0 lb cr))] [(.int rl), (.ref r0)])) t
            refine XS.iconst X26.here hx rfl (hb hby d6_106) ?_
            show Steps p.tables e below (T26.setTop (mkF m 107 #[.val (.ref r0), .val (.ref r1), .val (.int p2), .val (.int p3), .val (.int i), .val (.int (m6_80_s0 lb cr))] [(.int (1 : Int32)), (.int rl), (.ref r0)])) t
            refine XS.goto X26.here hx rfl (pc0 := 107) (pc' := 111) rfl (hb hby d6_107) (by decide) (by decide) ?_
            show Steps p.tables e below (T26.setTop (mkF m 111 #[.val (.ref r0), .val (.ref r1), .val (.int p2), .val (.int p3), .val (.int i), .val (.int (m6_80_s0 lb cr))] [(.int (1 : Int32)), (.int rl), (.ref r0)])) t
            refine XS.ior X26.here hx rfl (hb hby d6_111) rfl ?_
            exact k
          obtain ⟨T29, h29, X29, e29, W29, st29⟩ := putFN X26 hx hZ hown (hw _ (List.mem_of_getElem? (i := 31) rfl)) Via.refl e26 fl_3 fl_0 (Or.inl (hw _ (List.mem_of_getElem? (i := 32) rfl))) (hw _ (List.mem_of_getElem? (i := 14) rfl)) (ty := .boolean) (v' := (.int ((rl ||| (1 : Int32)) &&& 1))) (by decide) rfl (fits_nar_bool _) (g := (mkF m 112 #[.val (.ref r0), .val (.ref r1), .val (.int p2), .val (.int p3), .val (.int i), .val (.int (m6_80_s0 lb cr))] [(.int (rl ||| (1 : Int32))), (.ref r0)])) rfl rfl (hb hby d6_112)
          have Fw29 := fl_3.same W29
          have Kp29 : Keep h0 h29 [r0] := Kl.wr W29 (Or.inl (List.mem_of_getElem? (i := 0) rfl))
          have N29 := Fr.snoc X29 N8 g_r0
          have k30 : own_Go p e below (s₁.setTop (entryFrame m #[(.ref r0), (.ref r1), (.int p2), (.int p3)] 6)) (T29.setTop (mkF m 115 #[.val (.ref r0), .val (.ref r1), .val (.int p2), .val (.int p3), .val (.int i), .val (.int (m6_80_s0 lb cr))] [])) := fun t k => k28 t (st29 t k)
          have k31 : own_Go p e below (s₁.setTop (entryFrame m #[(.ref r0), (.ref r1), (.int p2), (.int p3)] 6)) (T29.setTop (mkF m 117 #[.val (.ref r0), .val (.ref r1), .val (.int p2), .val (.int p3), .val (.int i), .val (.int (m6_80_s0 lb cr))] [(.int (0 : Int32)), (.ref r0)])) := by
            intro t k
            refine k30 t ?_
            show Steps p.tables e below (T29.setTop (mkF m 115 #[.val (.ref r0), .val (.ref r1), .val (.int p2), .val (.int p3), .val (.int i), .val (.int (m6_80_s0 lb cr))] [])) t
            refine XS.aloadN X29.here hx rfl (hb hby d6_115) rfl rfl ?_
            show Steps p.tables e below (T29.setTop (mkF m 116 #[.val (.ref r0), .val (.ref r1), .val (.int p2), .val (.int p3), .val (.int i), .val (.int (m6_80_s0 lb cr))] [(.ref r0)])) t
            refine XS.iconst X29.here hx rfl (hb hby d6_116) ?_
            exact k
          obtain ⟨T32, h32, X32, e32, W32, st32⟩ := putF X29 hx hZ hown (host := "") (Or.inl (hw _ (List.mem_of_getElem? (i := 27) rfl))) Via.refl e29 (fl_1.other W29 (Or.inr (slot_ne (Or.inl (hw _ (List.mem_of_getElem? (i := 28) rfl))) (Or.inl (hw _ (List.mem_of_getElem? (i := 32) rfl))) (by decide) (t := .int) (t' := .boolean) (by decide) (by decide)))) (fl_0.wr W29) (Or.inl (hw _ (List.mem_of_getElem? (i := 28) rfl))) (hw _ (List.mem_of_getElem? (i := 14) rfl)) (ty := .int) (by decide) rfl rfl (g := (mkF m 117 #[.val (.ref r0), .val (.ref r1), .val (.int p2), .val (.int p3), .val (.int i), .val (.int (m6_80_s0 lb cr))] [(.int (0 : Int32)), (.ref r0)])) rfl rfl (hb hby d6_117)
          have Fw32 := (fl_1.other W29 (Or.inr (slot_ne (Or.inl (hw _ (List.mem_of_getElem? (i := 28) rfl))) (Or.inl (hw _ (List.mem_of_getElem? (i := 32) rfl))) (by decide) (t := .int) (t' := .boolean) (by decide) (by decide)))).same W32
          have Kp32 : Keep h0 h32 [r0] := Kp29.wr W32 (Or.inl (List.mem_of_getElem? (i := 0) rfl))
          have N32 := Fr.snoc X32 N29 g_r0
          have k33 : own_Go p e below (s₁.setTop (entryFrame m #[(.ref r0), (.ref r1), (.int p2), (.int p3)] 6)) (T32.setTop (mkF m 120 #[.val (.ref r0), .val (.ref r1), .val (.int p2), .val (.int p3), .val (.int i), .val (.int (m6_80_s0 lb cr))] [])) := fun t k => k31 t (st32 t k)
          have k34 : own_Go p e below (s₁.setTop (entryFrame m #[(.ref r0), (.ref r1), (.int p2), (.int p3)] 6)) (T32.setTop (mkF m 3 #[.val (.ref r0), .val (.ref r1), .val (.int p2), .val (.int p3), .val (.int (i + (1 : Int32))), .val (.int (m6_80_s0 lb cr))] [])) := by
            intro t k
            refine k33 t ?_
            show Steps p.tables e below (T32.setTop (mkF m 120 #[.val (.ref r0), .val (.ref r1), .val (.int p2), .val (.int p3), .val (.int i), .val (.int (m6_80_s0 lb cr))] [])) t
            refine XS.iinc X32.here hx rfl (hb hby d6_120) rfl (l' := #[.val (.ref r0), .val (.ref r1), .val (.int p2), .val (.int p3), .val (.int (i + (1 : Int32))), .val (.int (m6_80_s0 lb cr))]) rfl ?_
            show Steps p.tables e below (T32.setTop (mkF m 123 #[.val (.ref r0), .val (.ref r1), .val (.int p2), .val (.int p3), .val (.int (i + (1 : Int32))), .val (.int (m6_80_s0 lb cr))] [])) t
            refine XS.goto X32.here hx rfl (pc0 := 123) (pc' := 3) rfl (hb hby d6_123) (by decide) (by decide) ?_
            exact k
          rw [show endsF B1 (k + 1) i lb cr rl = endsF B1 k (i + (1 : Int32)) (0 : Int32) cr ((rl ||| (1 : Int32)) &&& 1) from (by rw [own_endsF_succ, if_pos hc15_4, if_pos hc84_24])]
          exact ih (i + (1 : Int32)) (0 : Int32) cr ((rl ||| (1 : Int32)) &&& 1) _ _ _ _ X32 e32 N32 (Nat.le_trans (Nat.le_trans Zl (Keep.of_wr W29).1) (Keep.of_wr W32).1) (One.val rfl) ((fl_0.wr W29).wr W32) Fw32 ((fl_2.other W29 (Or.inr (slot_ne (Or.inl (hw _ (List.mem_of_getElem? (i := 30) rfl))) (Or.inl (hw _ (List.mem_of_getElem? (i := 32) rfl))) (by decide) (t := .boolean) (t' := .boolean) (by decide) (by decide)))).other W32 (Or.inr (slot_ne (Or.inl (hw _ (List.mem_of_getElem? (i := 30) rfl))) (Or.inl (hw _ (List.mem_of_getElem? (i := 28) rfl))) (by decide) (t := .boolean) (t' := .int) (by decide) (by decide)))) (Fw29.other W32 (Or.inr (slot_ne (Or.inl (hw _ (List.mem_of_getElem? (i := 32) rfl))) (Or.inl (hw _ (List.mem_of_getElem? (i := 28) rfl))) (by decide) (t := .boolean) (t' := .int) (by decide) (by decide)))) ((fl_4.other W29 (Ne.symm ne_r0_r1)).other W32 (Ne.symm ne_r0_r1)) Kp32 (own_next hI) k34
        · have k35 : own_Go p e below (s₁.setTop (entryFrame m #[(.ref r0), (.ref r1), (.int p2), (.int p3)] 6)) (T8.setTop (mkF m 88 #[.val (.ref r0), .val (.ref r1), .val (.int p2), .val (.int p3), .val (.int i), .val (.int (m6_80_s0 lb cr))] [(.ref r0)])) := by
            intro t k
            refine k23 t ?_
            show Steps p.tables e below (T8.setTop (mkF m 84 #[.val (.ref r0), .val (.ref r1), .val (.int p2), .val (.int p3), .val (.int i), .val (.int (m6_80_s0 lb cr))] [(.int (m6_80_s0 lb cr))])) t
            refine XS.ifNo X8.here hx rfl (hb hby d6_84) rfl ((if0 _ _).trans (feq hc84_24).1) ?_
            show Steps p.tables e below (T8.setTop (mkF m 87 #[.val (.ref r0), .val (.ref r1), .val (.int p2), .val (.int p3), .val (.int i), .val (.int (m6_80_s0 lb cr))] [])) t
            refine XS.aloadN X8.here hx rfl (hb hby d6_87) rfl rfl ?_
            exact k
          obtain ⟨T36, X36, e36, st36⟩ := getF X8 hx hZ hown (host := "") (Or.inl (hw _ (List.mem_of_getElem? (i := 31) rfl))) Via.refl e8 fl_3 (g := (mkF m 88 #[.val (.ref r0), .val (.ref r1), .val (.int p2), .val (.int p3), .val (.int i), .val (.int (m6_80_s0 lb cr))] [(.ref r0)])) rfl rfl (hb hby d6_88)
          have k37 : own_Go p e below (s₁.setTop (entryFrame m #[(.ref r0), (.ref r1), (.int p2), (.int p3)] 6)) (T36.setTop (mkF m 91 #[.val (.ref r0), .val (.ref r1), .val (.int p2), .val (.int p3), .val (.int i), .val (.int (m6_80_s0 lb cr))] [(.int rl)])) := fun t k => k35 t (st36 t k)
          by_cases hc91_38 : rl = (0 : Int32)
          · have k39 : own_Go p e below (s₁.setTop (entryFrame m #[(.ref r0), (.ref r1), (.int p2), (.int p3)] 6)) (T36.setTop (mkF m 98 #[.val (.ref r0), .val (.ref r1), .val (.int p2), .val (.int p3), .val (.int i), .val (.int (m6_80_s0 lb cr))] [(.ref r0), (.ref r0)])) := by
              intro t k
              refine k37 t ?_
              show Steps p.tables e below (T36.setTop (mkF m 91 #[.val (.ref r0), .val (.ref r1), .val (.int p2), .val (.int p3), .val (.int i), .val (.int (m6_80_s0 lb cr))] [(.int rl)])) t
              refine XS.ifYes X36.here hx rfl (pc0 := 91) (pc' := 96) rfl (hb hby d6_91) rfl ((if0 _ _).trans (teq hc91_38).1) (by decide) (by decide) ?_
              show Steps p.tables e below (T36.setTop (mkF m 96 #[.val (.ref r0), .val (.ref r1), .val (.int p2), .val (.int p3), .val (.int i), .val (.int (m6_80_s0 lb cr))] [])) t
              refine XS.aloadN X36.here hx rfl (hb hby d6_96) rfl rfl ?_
              show Steps p.tables e below (T36.setTop (mkF m 97 #[.val (.ref r0), .val (.ref r1), .val (.int p2), .val (.int p3), .val (.int i), .val (.int (m6_80_s0 lb cr))] [(.ref r0)])) t
              refine XS.dup X36.here hx rfl (hb hby d6_97) rfl rfl ?_
              exact k
            obtain ⟨T40, X40, e40, st40⟩ := getF X36 hx hZ hown (host := "") (Or.inl (hw _ (List.mem_of_getElem? (i := 31) rfl))) Via.refl e36 fl_3 (g := (mkF m 98 #[.val (.ref r0), .val (.ref r1), .val (.int p2), .val (.int p3), .val (.int i), .val (.int (m6_80_s0 lb cr))] [(.ref r0), (.ref r0)])) rfl rfl (hb hby d6_98)
            have k41 : own_Go p e below (s₁.setTop (entryFrame m #[(.ref r0), (.ref r1), (.int p2), (.int p3)] 6)) (T40.setTop (mkF m 101 #[.val (.ref r0), .val (.ref r1), .val (.int p2), .val (.int p3), .val (.int i), .val (.int (m6_80_s0 lb cr))] [(.int rl), (.ref r0)])) := fun t k => k39 t (st40 t k)
            have k42 : own_Go p e below (s₁.setTop (entryFrame m #[(.ref r0), (.ref r1), (.int p2), (.int p3)] 6)) (T40.setTop (mkF m 112 #[.val (.ref r0), .val (.ref r1), .val (.int p2), .val (.int p3), .val (.int i), .val (.int (m6_80_s0 lb cr))] [(.int (rl ||| (0 : Int32))), (.ref r0)])) := by
              intro t k
              refine k41 t ?_
              show Steps p.tables e below (T40.setTop (mkF m 101 #[.val (.ref r0), .val (.ref r1), .val (.int p2), .val (.int p3), .val (.int i), .val (.int (m6_80_s0 lb cr))] [(.int rl), (.ref r0)])) t
              refine XS.iload X40.here hx rfl (hb hby d6_101) rfl ?_
              show Steps p.tables e below (T40.setTop (mkF m 103 #[.val (.ref r0), .val (.ref r1), .val (.int p2), .val (.int p3), .val (.int i), .val (.int (m6_80_s0 lb cr))] [(.int (m6_80_s0 lb cr)), (.int rl), (.ref r0)])) t
              refine XS.ifYes X40.here hx rfl (pc0 := 103) (pc' := 110) rfl (hb hby d6_103) rfl ((if0 _ _).trans (feq hc84_24).2) (by decide) (by decide) ?_
              show Steps p.tables e below (T40.setTop (mkF m 110 #[.val (.ref r0), .val (.ref r1), .val (.int p2), .val (.int p3), .val (.int i), .val (.int (m6_80_s0 lb cr))] [(.int rl), (.ref r0)])) t
              refine XS.iconst X40.here hx rfl (hb hby d6_110) ?_
              show Steps p.tables e below (T40.setTop (mkF m 111 #[.val (.ref r0), .val (.ref r1), .val (.int p2), .val (.int p3), .val (.int i), .val (.int (m6_80_s0 lb cr))] [(.int (0 : Int32)), (.int rl), (.ref r0)])) t
              refine XS.ior X40.here hx rfl (hb hby d6_111) rfl ?_
              exact k
            obtain ⟨T43, h43, X43, e43, W43, st43⟩ := putFN X40 hx hZ hown (hw _ (List.mem_of_getElem? (i := 31) rfl)) Via.refl e40 fl_3 fl_0 (Or.inl (hw _ (List.mem_of_getElem? (i := 32) rfl))) (hw _ (List.mem_of_getElem? (i := 14) rfl)) (ty := .boolean) (v' := (.int ((rl ||| (0 : Int32)) &&& 1))) (by decide) rfl (fits_nar_bool _) (g := (mkF m 112 #[.val (.ref r0), .val (.ref r1), .val (.int p2), .val (.int p3), .val (.int i), .val (.int (m6_80_s0 lb cr))] [(.int (rl ||| (0 : Int32))), (.ref r0)])) rfl rfl (hb hby d6_112)
            have Fw43 := fl_3.same W43
            have Kp43 : Keep h0 h43 [r0] := Kl.wr W43 (Or.inl (List.mem_of_getElem? (i := 0) rfl))
            have N43 := Fr.snoc X43 N8 g_r0
            have k44 : own_Go p e below (s₁.setTop (entryFrame m #[(.ref r0), (.ref r1), (.int p2), (.int p3)] 6)) (T43.setTop (mkF m 115 #[.val (.ref r0), .val (.ref r1), .val (.int p2), .val (.int p3), .val (.int i), .val (.int (m6_80_s0 lb cr))] [])) := fun t k => k42 t (st43 t k)
            have k45 : own_Go p e below (s₁.setTop (entryFrame m #[(.ref r0), (.ref r1), (.int p2), (.int p3)] 6)) (T43.setTop (mkF m 117 #[.val (.ref r0), .val (.ref r1), .val (.int p2), .val (.int p3), .val (.int i), .val (.int (m6_80_s0 lb cr))] [(.int (0 : Int32)), (.ref r0)])) := by
              intro t k
              refine k44 t ?_
              show Steps p.tables e below (T43.setTop (mkF m 115 #[.val (.ref r0), .val (.ref r1), .val (.int p2), .val (.int p3), .val (.int i), .val (.int (m6_80_s0 lb cr))] [])) t
              refine XS.aloadN X43.here hx rfl (hb hby d6_115) rfl rfl ?_
              show Steps p.tables e below (T43.setTop (mkF m 116 #[.val (.ref r0), .val (.ref r1), .val (.int p2), .val (.int p3), .val (.int i), .val (.int (m6_80_s0 lb cr))] [(.ref r0)])) t
              refine XS.iconst X43.here hx rfl (hb hby d6_116) ?_
              exact k
            obtain ⟨T46, h46, X46, e46, W46, st46⟩ := putF X43 hx hZ hown (host := "") (Or.inl (hw _ (List.mem_of_getElem? (i := 27) rfl))) Via.refl e43 (fl_1.other W43 (Or.inr (slot_ne (Or.inl (hw _ (List.mem_of_getElem? (i := 28) rfl))) (Or.inl (hw _ (List.mem_of_getElem? (i := 32) rfl))) (by decide) (t := .int) (t' := .boolean) (by decide) (by decide)))) (fl_0.wr W43) (Or.inl (hw _ (List.mem_of_getElem? (i := 28) rfl))) (hw _ (List.mem_of_getElem? (i := 14) rfl)) (ty := .int) (by decide) rfl rfl (g := (mkF m 117 #[.val (.ref r0), .val (.ref r1), .val (.int p2), .val (.int p3), .val (.int i), .val (.int (m6_80_s0 lb cr))] [(.int (0 : Int32)), (.ref r0)])) rfl rfl (hb hby d6_117)
            have Fw46 := (fl_1.other W43 (Or.inr (slot_ne (Or.inl (hw _ (List.mem_of_getElem? (i := 28) rfl))) (Or.inl (hw _ (List.mem_of_getElem? (i := 32) rfl))) (by decide) (t := .int) (t' := .boolean) (by decide) (by decide)))).same W46
            have Kp46 : Keep h0 h46 [r0] := Kp43.wr W46 (Or.inl (List.mem_of_getElem? (i := 0) rfl))
            have N46 := Fr.snoc X46 N43 g_r0
            have k47 : own_Go p e below (s₁.setTop (entryFrame m #[(.ref r0), (.ref r1), (.int p2), (.int p3)] 6)) (T46.setTop (mkF m 120 #[.val (.ref r0), .val (.ref r1), .val (.int p2), .val (.int p3), .val (.int i), .val (.int (m6_80_s0 lb cr))] [])) := fun t k => k45 t (st46 t k)
            have k48 : own_Go p e below (s₁.setTop (entryFrame m #[(.ref r0), (.ref r1), (.int p2), (.int p3)] 6)) (T46.setTop (mkF m 3 #[.val (.ref r0), .val (.ref r1), .val (.int p2), .val (.int p3), .val (.int (i + (1 : Int32))), .val (.int (m6_80_s0 lb cr))] [])) := by
              intro t k
              refine k47 t ?_
              show Steps p.tables e below (T46.setTop (mkF m 120 #[.val (.ref r0), .val (.ref r1), .val (.int p2), .val (.int p3), .val (.int i), .val (.int (m6_80_s0 lb cr))] [])) t
              refine XS.iinc X46.here hx rfl (hb hby d6_120) rfl (l' := #[.val (.ref r0), .val (.ref r1), .val (.int p2), .val (.int p3), .val (.int (i + (1 : Int32))), .val (.int (m6_80_s0 lb cr))]) rfl ?_
              show Steps p.tables e below (T46.setTop (mkF m 123 #[.val (.ref r0), .val (.ref r1), .val (.int p2), .val (.int p3), .val (.int (i + (1 : Int32))), .val (.int (m6_80_s0 lb cr))] [])) t
              refine XS.goto X46.here hx rfl (pc0 := 123) (pc' := 3) rfl (hb hby d6_123) (by decide) (by decide) ?_
              exact k
            rw [show endsF B1 (k + 1) i lb cr rl = endsF B1 k (i + (1 : Int32)) (0 : Int32) cr ((rl ||| (0 : Int32)) &&& 1) from (by rw [own_endsF_succ, if_pos hc15_4, if_neg hc84_24, if_pos hc91_38])]
            exact ih (i + (1 : Int32)) (0 : Int32) cr ((rl ||| (0 : Int32)) &&& 1) _ _ _ _ X46 e46 N46 (Nat.le_trans (Nat.le_trans Zl (Keep.of_wr W43).1) (Keep.of_wr W46).1) (One.val rfl) ((fl_0.wr W43).wr W46) Fw46 ((fl_2.other W43 (Or.inr (slot_ne (Or.inl (hw _ (List.mem_of_getElem? (i := 30) rfl))) (Or.inl (hw _ (List.mem_of_getElem? (i := 32) rfl))) (by decide) (t := .boolean) (t' := .boolean) (by decide) (by decide)))).other W46 (Or.inr (slot_ne (Or.inl (hw _ (List.mem_of_getElem? (i := 30) rfl))) (Or.inl (hw _ (List.mem_of_getElem? (i := 28) rfl))) (by decide) (t := .boolean) (t' := .int) (by decide) (by decide)))) (Fw43.other W46 (Or.inr (slot_ne (Or.inl (hw _ (List.mem_of_getElem? (i := 32) rfl))) (Or.inl (hw _ (List.mem_of_getElem? (i := 28) rfl))) (by decide) (t := .boolean) (t' := .int) (by decide) (by decide)))) ((fl_4.other W43 (Ne.symm ne_r0_r1)).other W46 (Ne.symm ne_r0_r1)) Kp46 (own_next hI) k48
          · have k49 : own_Go p e below (s₁.setTop (entryFrame m #[(.ref r0), (.ref r1), (.int p2), (.int p3)] 6)) (T36.setTop (mkF m 95 #[.val (.ref r0), .val (.ref r1), .val (.int p2), .val (.int p3), .val (.int i), .val (.int (m6_80_s0 lb cr))] [(.int (1 : Int32))])) := by
              intro t k
              refine k37 t ?_
              show Steps p.tables e below (T36.setTop (mkF m 91 #[.val (.ref r0), .val (.ref r1), .val (.int p2), .val (.int p3), .val (.int i), .val (.int (m6_80_s0 lb cr))] [(.int rl)])) t
              refine XS.ifNo X36.here hx rfl (hb hby d6_91) rfl ((if0 _ _).trans (feq hc91_38).1) ?_
              show Steps p.tables e below (T36.setTop (mkF m 94 #[.val (.ref r0), .val (.ref r1), .val (.int p2), .val (.int p3), .val (.int i), .val (.int (m6_80_s0 lb cr))] [])) t
              refine XS.iconst X36.here hx rfl (hb hby d6_94) ?_
              exact k
            obtain ⟨fs, hr, hrun, hended, hW, hsame⟩ := X36.leave (v := some (.int (1 : Int32))) (fun h => by rw [Bd.returns] at h; cases h)
            refine ⟨_, _, k49 _ ?_, hrun, hended, _, _, rfl, ?_, ⟨_, rfl⟩, hW, hsame.mono (by decide) (by decide)⟩
            · exact retN X36 hx (t := .boolean) Bd.returns (by simp) (hb hby d6_95) hr
            · show QL6 Z r0 r1 p2 p3 u_lineBytes u_crFirst u_requestLine B1 (endsF B1 (k + 1) i lb cr rl) h0 n0 _ T36.heap _
              rw [e36]
              rw [show endsF B1 (k + 1) i lb cr rl = ((1 : Int32), lb, cr, rl) from (by rw [own_endsF_succ, if_pos hc15_4, if_neg hc84_24, if_neg hc91_38])]
              exact ⟨rfl, N8, Kl, fl_0, fl_1, fl_2, fl_3⟩
      · have k50 : own_Go p e below (s₁.setTop (entryFrame m #[(.ref r0), (.ref r1), (.int p2), (.int p3)] 6)) (Tl.setTop (mkF m 20 #[.val (.ref r0), .val (.ref r1), .val (.int p2), .val (.int p3), .val (.int i), s5] [(.ref r0), (.ref r0)])) := by
          intro t k
          refine k3 t ?_
          show Steps p.tables e below (Tl.setTop (mkF m 15 #[.val (.ref r0), .val (.ref r1), .val (.int p2), .val (.int p3), .val (.int i), s5] [(.int (10 : Int32)), (.int (B1 (i).toNatClampNeg))])) t
          refine XS.icmpNo Xl.here hx rfl (hb hby d6_15) rfl (feq hc15_4).1 ?_
          show Steps p.tables e below (Tl.setTop (mkF m 18 #[.val (.ref r0), .val (.ref r1), .val (.int p2), .val (.int p3), .val (.int i), s5] [])) t
          refine XS.aloadN Xl.here hx rfl (hb hby d6_18) rfl rfl ?_
          show Steps p.tables e below (Tl.setTop (mkF m 19 #[.val (.ref r0), .val (.ref r1), .val (.int p2), .val (.int p3), .val (.int i), s5] [(.ref r0)])) t
          refine XS.dup Xl.here hx rfl (hb hby d6_19) rfl rfl ?_
          exact k
        obtain ⟨T51, X51, e51, st51⟩ := getF Xl hx hZ hown (host := "") (Or.inl (hw _ (List.mem_of_getElem? (i := 27) rfl))) Via.refl el fl_1 (g := (mkF m 20 #[.val (.ref r0), .val (.ref r1), .val (.int p2), .val (.int p3), .val (.int i), s5] [(.ref r0), (.ref r0)])) rfl rfl (hb hby d6_20)
        have k52 : own_Go p e below (s₁.setTop (entryFrame m #[(.ref r0), (.ref r1), (.int p2), (.int p3)] 6)) (T51.setTop (mkF m 23 #[.val (.ref r0), .val (.ref r1), .val (.int p2), .val (.int p3), .val (.int i), s5] [(.int lb), (.ref r0)])) := fun t k => k50 t (st51 t k)
        have k53 : own_Go p e below (s₁.setTop (entryFrame m #[(.ref r0), (.ref r1), (.int p2), (.int p3)] 6)) (T51.setTop (mkF m 26 #[.val (.ref r0), .val (.ref r1), .val (.int p2), .val (.int p3), .val (.int i), s5] [(.int (lb + (1 : Int32))), (.ref r0), (.int lb)])) := by
          intro t k
          refine k52 t ?_
          show Steps p.tables e below (T51.setTop (mkF m 23 #[.val (.ref r0), .val (.ref r1), .val (.int p2), .val (.int p3), .val (.int i), s5] [(.int lb), (.ref r0)])) t
          refine XS.dupX1 X51.here hx rfl (hb hby d6_23) rfl rfl rfl ?_
          show Steps p.tables e below (T51.setTop (mkF m 24 #[.val (.ref r0), .val (.ref r1), .val (.int p2), .val (.int p3), .val (.int i), s5] [(.int lb), (.ref r0), (.int lb)])) t
          refine XS.iconst X51.here hx rfl (hb hby d6_24) ?_
          show Steps p.tables e below (T51.setTop (mkF m 25 #[.val (.ref r0), .val (.ref r1), .val (.int p2), .val (.int p3), .val (.int i), s5] [(.int (1 : Int32)), (.int lb), (.ref r0), (.int lb)])) t
          refine XS.iadd X51.here hx rfl (hb hby d6_25) rfl ?_
          exact k
        obtain ⟨T54, h54, X54, e54, W54, st54⟩ := putF X51 hx hZ hown (host := "") (Or.inl (hw _ (List.mem_of_getElem? (i := 27) rfl))) Via.refl e51 fl_1 fl_0 (Or.inl (hw _ (List.mem_of_getElem? (i := 28) rfl))) (hw _ (List.mem_of_getElem? (i := 14) rfl)) (ty := .int) (by decide) rfl rfl (g := (mkF m 26 #[.val (.ref r0), .val (.ref r1), .val (.int p2), .val (.int p3), .val (.int i), s5] [(.int (lb + (1 : Int32))), (.ref r0), (.int lb)])) rfl rfl (hb hby d6_26)
        have Fw54 := fl_1.same W54
        have Kp54 : Keep h0 h54 [r0] := Kl.wr W54 (Or.inl (List.mem_of_getElem? (i := 0) rfl))
        have N54 := Fr.snoc X54 Nl g_r0
        have k55 : own_Go p e below (s₁.setTop (entryFrame m #[(.ref r0), (.ref r1), (.int p2), (.int p3)] 6)) (T54.setTop (mkF m 29 #[.val (.ref r0), .val (.ref r1), .val (.int p2), .val (.int p3), .val (.int i), s5] [(.int lb)])) := fun t k => k53 t (st54 t k)
        by_cases hc29_56 : lb = (0 : Int32)
        · have k57 : own_Go p e below (s₁.setTop (entryFrame m #[(.ref r0), (.ref r1), (.int p2), (.int p3)] 6)) (T54.setTop (mkF m 39 #[.val (.ref r0), .val (.ref r1), .val (.int p2), .val (.int p3), .val (.int i), s5] [(.int (13 : Int32)), (.int (B1 (i).toNatClampNeg)), (.ref r0)])) := by
            intro t k
            refine k55 t ?_
            show Steps p.tables e below (T54.setTop (mkF m 29 #[.val (.ref r0), .val (.ref r1), .val (.int p2), .val (.int p3), .val (.int i), s5] [(.int lb)])) t
            refine XS.ifNo X54.here hx rfl (hb hby d6_29) rfl ((if0 _ _).trans (teq hc29_56).2) ?_
            show Steps p.tables e below (T54.setTop (mkF m 32 #[.val (.ref r0), .val (.ref r1), .val (.int p2), .val (.int p3), .val (.int i), s5] [])) t
            refine XS.aloadN X54.here hx rfl (hb hby d6_32) rfl rfl ?_
            show Steps p.tables e below (T54.setTop (mkF m 33 #[.val (.ref r0), .val (.ref r1), .val (.int p2), .val (.int p3), .val (.int i), s5] [(.ref r0)])) t
            refine XS.aloadN X54.here hx rfl (hb hby d6_33) rfl rfl ?_
            show Steps p.tables e below (T54.setTop (mkF m 34 #[.val (.ref r0), .val (.ref r1), .val (.int p2), .val (.int p3), .val (.int i), s5] [(.ref r1), (.ref r0)])) t
            refine XS.iload X54.here hx rfl (hb hby d6_34) rfl ?_
            show Steps p.tables e below (T54.setTop (mkF m 36 #[.val (.ref r0), .val (.ref r1), .val (.int p2), .val (.int p3), .val (.int i), s5] [(.int i), (.ref r1), (.ref r0)])) t
            refine own_bld X54 hx hZ e54 (fl_4.other W54 (Ne.symm ne_r0_r1)) (j := i) (own_at hI).1 (own_at hI).2 (g := (mkF m 36 #[.val (.ref r0), .val (.ref r1), .val (.int p2), .val (.int p3), .val (.int i), s5] [(.int i), (.ref r1), (.ref r0)])) rfl rfl (hb hby d6_36) _ ?_
            show Steps p.tables e below (T54.setTop (mkF m 37 #[.val (.ref r0), .val (.ref r1), .val (.int p2), .val (.int p3), .val (.int i), s5] [(.int (B1 (i).toNatClampNeg)), (.ref r0)])) t
            refine XS.bipush X54.here hx rfl (hb hby d6_37) ?_
            exact k
          have k58 : own_Go p e below (s₁.setTop (entryFrame m #[(.ref r0), (.ref r1), (.int p2), (.int p3)] 6)) (T54.setTop (mkF m 47 #[.val (.ref r0), .val (.ref r1), .val (.int p2), .val (.int p3), .val (.int i), s5] [(.int (m6_47_s0 B1 i)), (.ref r0)])) := by
            by_cases hc39_59 : (B1 (i).toNatClampNeg) = (13 : Int32)
            · have k60 : own_Go p e below (s₁.setTop (entryFrame m #[(.ref r0), (.ref r1), (.int p2), (.int p3)] 6)) (T54.setTop (mkF m 47 #[.val (.ref r0), .val (.ref r1), .val (.int p2), .val (.int p3), .val (.int i), s5] [(.int (1 : Int32)), (.ref r0)])) := by
                intro t k
                refine k57 t ?_
                show Steps p.tables e below (T54.setTop (mkF m 39 #[.val (.ref r0), .val (.ref r1), .val (.int p2), .val (.int p3), .val (.int i), s5] [(.int (13 : Int32)), (.int (B1 (i).toNatClampNeg)), (.ref r0)])) t
                refine XS.icmpNo X54.here hx rfl (hb hby d6_39) rfl (teq hc39_59).2 ?_
                show Steps p.tables e below (T54.setTop (mkF m 42 #[.val (.ref r0), .val (.ref r1), .val (.int p2), .val (.int p3), .val (.int i), s5] [(.ref r0)])) t
                refine XS.iconst X54.here hx rfl (hb hby d6_42) ?_
                show Steps p.tables e below (T54.setTop (mkF m 43 #[.val (.ref r0), .val (.ref r1), .val (.int p2), .val (.int p3), .val (.int i), s5] [(.int (1 : Int32)), (.ref r0)])) t
                refine XS.goto X54.here hx rfl (pc0 := 43) (pc' := 47) rfl (hb hby d6_43) (by decide) (by decide) ?_
                exact k
              exact (by rw [show (m6_47_s0 B1 i) = (1 : Int32) from (by unfold m6_47_s0; rw [if_pos hc39_59])]; exact k60)
            · have k61 : own_Go p e below (s₁.setTop (entryFrame m #[(.ref r0), (.ref r1), (.int p2), (.int p3)] 6)) (T54.setTop (mkF m 47 #[.val (.ref r0), .val (.ref r1), .val (.int p2), .val (.int p3), .val (.int i), s5] [(.int (0 : Int32)), (.ref r0)])) := by
                intro t k
                refine k57 t ?_
                show Steps p.tables e below (T54.setTop (mkF m 39 #[.val (.ref r0), .val (.ref r1), .val (.int p2), .val (.int p3), .val (.int i), s5] [(.int (13 : Int32)), (.int (B1 (i).toNatClampNeg)), (.ref r0)])) t
                refine XS.icmpYes X54.here hx rfl (pc0 := 39) (pc' := 46) rfl (hb hby d6_39) rfl (feq hc39_59).2 (by decide) (by decide) ?_
                show Steps p.tables e below (T54.setTop (mkF m 46 #[.val (.ref r0), .val (.ref r1), .val (.int p2), .val (.int p3), .val (.int i), s5] [(.ref r0)])) t
                refine XS.iconst X54.here hx rfl (hb hby d6_46) ?_
                exact k
              exact (by rw [show (m6_47_s0 B1 i) = (0 : Int32) from (by unfold m6_47_s0; rw [if_neg hc39_59])]; exact k61)
          obtain ⟨T62, h62, X62, e62, W62, st62⟩ := putFN X54 hx hZ hown (hw _ (List.mem_of_getElem? (i := 29) rfl)) Via.refl e54 (fl_2.other W54 (Or.inr (slot_ne (Or.inl (hw _ (List.mem_of_getElem? (i := 30) rfl))) (Or.inl (hw _ (List.mem_of_getElem? (i := 28) rfl))) (by decide) (t := .boolean) (t' := .int) (by decide) (by decide)))) (fl_0.wr W54) (Or.inl (hw _ (List.mem_of_getElem? (i := 30) rfl))) (hw _ (List.mem_of_getElem? (i := 14) rfl)) (ty := .boolean) (v' := (.int ((m6_47_s0 B1 i) &&& 1))) (by decide) rfl (fits_nar_bool _) (g := (mkF m 47 #[.val (.ref r0), .val (.ref r1), .val (.int p2), .val (.int p3), .val (.int i), s5] [(.int (m6_47_s0 B1 i)), (.ref r0)])) rfl rfl (hb hby d6_47)
          have Fw62 := (fl_2.other W54 (Or.inr (slot_ne (Or.inl (hw _ (List.mem_of_getElem? (i := 30) rfl))) (Or.inl (hw _ (List.mem_of_getElem? (i := 28) rfl))) (by decide) (t := .boolean) (t' := .int) (by decide) (by decide)))).same W62
          have Kp62 : Keep h0 h62 [r0] := Kp54.wr W62 (Or.inl (List.mem_of_getElem? (i := 0) rfl))
          have N62 := Fr.snoc X62 N54 g_r0
          have k63 : own_Go p e below (s₁.setTop (entryFrame m #[(.ref r0), (.ref r1), (.int p2), (.int p3)] 6)) (T62.setTop (mkF m 50 #[.val (.ref r0), .val (.ref r1), .val (.int p2), .val (.int p3), .val (.int i), s5] [])) := fun t k => k58 t (st62 t k)
          have k64 : own_Go p e below (s₁.setTop (entryFrame m #[(.ref r0), (.ref r1), (.int p2), (.int p3)] 6)) (T62.setTop (mkF m 3 #[.val (.ref r0), .val (.ref r1), .val (.int p2), .val (.int p3), .val (.int (i + (1 : Int32))), s5] [])) := by
            intro t k
            refine k63 t ?_
            show Steps p.tables e below (T62.setTop (mkF m 50 #[.val (.ref r0), .val (.ref r1), .val (.int p2), .val (.int p3), .val (.int i), s5] [])) t
            refine XS.goto X62.here hx rfl (pc0 := 50) (pc' := 120) rfl (hb hby d6_50) (by decide) (by decide) ?_
            show Steps p.tables e below (T62.setTop (mkF m 120 #[.val (.ref r0), .val (.ref r1), .val (.int p2), .val (.int p3), .val (.int i), s5] [])) t
            refine XS.iinc X62.here hx rfl (hb hby d6_120) rfl (l' := #[.val (.ref r0), .val (.ref r1), .val (.int p2), .val (.int p3), .val (.int (i + (1 : Int32))), s5]) rfl ?_
            show Steps p.tables e below (T62.setTop (mkF m 123 #[.val (.ref r0), .val (.ref r1), .val (.int p2), .val (.int p3), .val (.int (i + (1 : Int32))), s5] [])) t
            refine XS.goto X62.here hx rfl (pc0 := 123) (pc' := 3) rfl (hb hby d6_123) (by decide) (by decide) ?_
            exact k
          rw [show endsF B1 (k + 1) i lb cr rl = endsF B1 k (i + (1 : Int32)) (lb + (1 : Int32)) ((m6_47_s0 B1 i) &&& 1) rl from (by rw [own_endsF_succ, if_neg hc15_4, if_pos hc29_56])]
          exact ih (i + (1 : Int32)) (lb + (1 : Int32)) ((m6_47_s0 B1 i) &&& 1) rl _ _ _ _ X62 e62 N62 (Nat.le_trans (Nat.le_trans Zl (Keep.of_wr W54).1) (Keep.of_wr W62).1) hs_s5 ((fl_0.wr W54).wr W62) (Fw54.other W62 (Or.inr (slot_ne (Or.inl (hw _ (List.mem_of_getElem? (i := 28) rfl))) (Or.inl (hw _ (List.mem_of_getElem? (i := 30) rfl))) (by decide) (t := .int) (t' := .boolean) (by decide) (by decide)))) Fw62 ((fl_3.other W54 (Or.inr (slot_ne (Or.inl (hw _ (List.mem_of_getElem? (i := 32) rfl))) (Or.inl (hw _ (List.mem_of_getElem? (i := 28) rfl))) (by decide) (t := .boolean) (t' := .int) (by decide) (by decide)))).other W62 (Or.inr (slot_ne (Or.inl (hw _ (List.mem_of_getElem? (i := 32) rfl))) (Or.inl (hw _ (List.mem_of_getElem? (i := 30) rfl))) (by decide) (t := .boolean) (t' := .boolean) (by decide) (by decide)))) ((fl_4.other W54 (Ne.symm ne_r0_r1)).other W62 (Ne.symm ne_r0_r1)) Kp62 (own_next hI) k64
        · have k65 : own_Go p e below (s₁.setTop (entryFrame m #[(.ref r0), (.ref r1), (.int p2), (.int p3)] 6)) (T54.setTop (mkF m 3 #[.val (.ref r0), .val (.ref r1), .val (.int p2), .val (.int p3), .val (.int (i + (1 : Int32))), s5] [])) := by
            intro t k
            refine k55 t ?_
            show Steps p.tables e below (T54.setTop (mkF m 29 #[.val (.ref r0), .val (.ref r1), .val (.int p2), .val (.int p3), .val (.int i), s5] [(.int lb)])) t
            refine XS.ifYes X54.here hx rfl (pc0 := 29) (pc' := 120) rfl (hb hby d6_29) rfl ((if0 _ _).trans (feq hc29_56).2) (by decide) (by decide) ?_
            show Steps p.tables e below (T54.setTop (mkF m 120 #[.val (.ref r0), .val (.ref r1), .val (.int p2), .val (.int p3), .val (.int i), s5] [])) t
            refine XS.iinc X54.here hx rfl (hb hby d6_120) rfl (l' := #[.val (.ref r0), .val (.ref r1), .val (.int p2), .val (.int p3), .val (.int (i + (1 : Int32))), s5]) rfl ?_
            show Steps p.tables e below (T54.setTop (mkF m 123 #[.val (.ref r0), .val (.ref r1), .val (.int p2), .val (.int p3), .val (.int (i + (1 : Int32))), s5] [])) t
            refine XS.goto X54.here hx rfl (pc0 := 123) (pc' := 3) rfl (hb hby d6_123) (by decide) (by decide) ?_
            exact k
          rw [show endsF B1 (k + 1) i lb cr rl = endsF B1 k (i + (1 : Int32)) (lb + (1 : Int32)) cr rl from (by rw [own_endsF_succ, if_neg hc15_4, if_neg hc29_56])]
          exact ih (i + (1 : Int32)) (lb + (1 : Int32)) cr rl _ _ _ _ X54 e54 N54 (Nat.le_trans Zl (Keep.of_wr W54).1) hs_s5 (fl_0.wr W54) Fw54 (fl_2.other W54 (Or.inr (slot_ne (Or.inl (hw _ (List.mem_of_getElem? (i := 30) rfl))) (Or.inl (hw _ (List.mem_of_getElem? (i := 28) rfl))) (by decide) (t := .boolean) (t' := .int) (by decide) (by decide)))) (fl_3.other W54 (Or.inr (slot_ne (Or.inl (hw _ (List.mem_of_getElem? (i := 32) rfl))) (Or.inl (hw _ (List.mem_of_getElem? (i := 28) rfl))) (by decide) (t := .boolean) (t' := .int) (by decide) (by decide)))) (fl_4.other W54 (Ne.symm ne_r0_r1)) Kp54 (own_next hI) k65
  exact Hl ((p3.toInt - p2.toInt).toNat) p2 u_lineBytes u_crFirst u_requestLine _ _ _ _ X0 e0 N0 Z0 One.u E_r0 F_lineBytes F_crFirst F_requestLine V_r1 K0 (own_first hp) k1
theorem d8_0 : decode method_3_code 0 = .ok (.iload_n 1, 1) := by decide +kernel
theorem d8_1 : decode method_3_code 1 = .ok (.iload_n 3, 1) := by decide +kernel
theorem d8_2 : decode method_3_code 2 = .ok (.if_icmp .gt 20, 3) := by decide +kernel
theorem d8_5 : decode method_3_code 5 = .ok (.iload_n 3, 1) := by decide +kernel
theorem d8_6 : decode method_3_code 6 = .ok (.iload_n 2, 1) := by decide +kernel
theorem d8_7 : decode method_3_code 7 = .ok (.if_icmp .ge 15, 3) := by decide +kernel
theorem d8_10 : decode method_3_code 10 = .ok (.aload_n 0, 1) := by decide +kernel
theorem d8_11 : decode method_3_code 11 = .ok (.iload_n 3, 1) := by decide +kernel
theorem d8_12 : decode method_3_code 12 = .ok (.baload, 1) := by decide +kernel
theorem d8_13 : decode method_3_code 13 = .ok (.bipush 10, 2) := by decide +kernel
theorem d8_15 : decode method_3_code 15 = .ok (.if_icmp .ne 7, 3) := by decide +kernel
theorem d8_18 : decode method_3_code 18 = .ok (.iconst 1, 1) := by decide +kernel
theorem d8_19 : decode method_3_code 19 = .ok (.goto 4, 3) := by decide +kernel
theorem d8_22 : decode method_3_code 22 = .ok (.iconst 0, 1) := by decide +kernel
theorem d8_23 : decode method_3_code 23 = .ok (.ireturn, 1) := by decide +kernel
theorem ef_8 (m : MethodId) (r0 : Addr) (p1 : Int32) (p2 : Int32) (p3 : Int32) : entryFrame m #[(.ref r0), (.int p1), (.int p2), (.int p3)] 4 = mkF m 0 #[.val (.ref r0), .val (.int p1), .val (.int p2), .val (.int p3)] [] := by first | (simp [entryFrame, mkF, argsToLocals, Value.category]; done) | rfl
def f8 (p1 : Int32) (p2 : Int32) (p3 : Int32) (B0 : Nat → Int32) : Int32 := (if p3 < p1 then (0 : Int32) else (if p3 < p2 then (if (B0 (p3).toNatClampNeg) = (10 : Int32) then (1 : Int32) else (0 : Int32)) else (0 : Int32)))
def Q8 (Z : State) (r0 : Addr) (p1 : Int32) (p2 : Int32) (p3 : Int32) (B0 : Nat → Int32) (h0 : Heap) (n0 : Nat) (v : Option Value) (h : Heap) (L : List Loc) : Prop := v = some (.int (f8 p1 p2 p3 B0)) ∧ Fr n0 L ∧ h = h0
set_option maxRecDepth 65536 in
set_option maxHeartbeats 40000000 in
theorem rm8 (l : Launch) (Z : State) (a0 : Array Value) (hw : ∀ d ∈ tables_1, d.before a0 Z = true) (ws : List Jvm.Cond) (r0 : Addr) (p1 : Int32) (p2 : Int32) (p3 : Int32) (B0 : Nat → Int32) (h0 : Heap) (n0 : Nat) (Z0 : n0 ≤ h0.size) (V_r0 : own_By Z h0 r0 6 B0) (hi : ¬ p3 < 0 ∧ p3.toNatClampNeg < 6) :
    MetFree l (⟨"com/example/dosewire/dosewire/server/net/EndEndsInPinLaw", "lfAt", "([BIII)Z"⟩ : MethodName) (head1 (Jvm.Cond.code (⟨"com/example/dosewire/dosewire/server/net/EndEndsInPinLaw", "lfAt", "([BIII)Z"⟩ : MethodName) method_3_code 4 (some .boolean) :: ws) ({ frames := 0, cells := 0, slots := 0, locals := 0 } : Room)) (fun a U => a = #[(.ref r0), (.int p1), (.int p2), (.int p3)] ∧ Z.Warmed39 U.vm ∧ U.heap = h0) (fun _ _ _ _ _ => True) (fun _ U o U' => ∃ v L, o = .returned v ∧ Q8 Z r0 p1 p2 p3 B0 h0 n0 v U'.heap L ∧ FrameEnd U o U' L ({ frames := 0, cells := 0, slots := 0, locals := 0 } : Room).cells ({ frames := 0, cells := 0, slots := 0, locals := 0 } : Room).slots) := by
  refine MetFree.of_bodySF (plainFor_of_name pn_0) hisR ?_
  intro p e s m args below meth c s₁ Bd hml0 hP hK
  obtain ⟨rfl, hZ, hh⟩ := hP
  have hx := Bd.exec
  have hby := Bd.bytes
  have hml : c.maxLocals = 4 := hml0
  have hown : s.vm.findClass "com/example/dosewire/dosewire/server/net/EndEndsInPinLaw" = some m.cls := findClass_of_methodNamed Bd.named
  have hnm := (name_of_methodNamed Bd.named Bd.method).1
  have X0 : Stand p l e ({ frames := 0, cells := 0, slots := 0, locals := 0 } : Room) s m #[(.ref r0), (.int p1), (.int p2), (.int p3)] below meth c s₁ [] 0 0 := Stand.of_body Bd
  have e0 : s₁.heap = h0 := by rw [← hh, Bd.state]; rfl
  have N0 := Fr.nil n0
  have pre0 : own_Go p e below (s₁.setTop (entryFrame m #[(.ref r0), (.int p1), (.int p2), (.int p3)] 4)) (s₁.setTop (mkF m 0 #[.val (.ref r0), .val (.int p1), .val (.int p2), .val (.int p3)] [])) := fun t k => castTop (ef_8 m r0 p1 p2 p3) k
  have k1 : own_Go p e below (s₁.setTop (entryFrame m #[(.ref r0), (.int p1), (.int p2), (.int p3)] 4)) (s₁.setTop (mkF m 2 #[.val (.ref r0), .val (.int p1), .val (.int p2), .val (.int p3)] [(.int p3), (.int p1)])) := by
    intro t k
    refine pre0 t ?_
    show Steps p.tables e below (s₁.setTop (mkF m 0 #[.val (.ref r0), .val (.int p1), .val (.int p2), .val (.int p3)] [])) t
    refine XS.iloadN X0.here hx rfl (hb hby d8_0) rfl ?_
    show Steps p.tables e below (s₁.setTop (mkF m 1 #[.val (.ref r0), .val (.int p1), .val (.int p2), .val (.int p3)] [(.int p1)])) t
    refine XS.iloadN X0.here hx rfl (hb hby d8_1) rfl ?_
    exact k
  by_cases hc2_2 : p3 < p1
  · have k3 : own_Go p e below (s₁.setTop (entryFrame m #[(.ref r0), (.int p1), (.int p2), (.int p3)] 4)) (s₁.setTop (mkF m 23 #[.val (.ref r0), .val (.int p1), .val (.int p2), .val (.int p3)] [(.int (0 : Int32))])) := by
      intro t k
      refine k1 t ?_
      show Steps p.tables e below (s₁.setTop (mkF m 2 #[.val (.ref r0), .val (.int p1), .val (.int p2), .val (.int p3)] [(.int p3), (.int p1)])) t
      refine XS.icmpYes X0.here hx rfl (pc0 := 2) (pc' := 22) rfl (hb hby d8_2) rfl (tlt hc2_2).2.2.1 (by decide) (by decide) ?_
      show Steps p.tables e below (s₁.setTop (mkF m 22 #[.val (.ref r0), .val (.int p1), .val (.int p2), .val (.int p3)] [])) t
      refine XS.iconst X0.here hx rfl (hb hby d8_22) ?_
      exact k
    obtain ⟨fs, hr, hrun, hended, hW, hsame⟩ := X0.leave (v := some (.int (0 : Int32))) (fun h => by rw [Bd.returns] at h; cases h)
    refine ⟨_, _, k3 _ ?_, hrun, hended, _, _, rfl, ?_, ⟨_, rfl⟩, hW, hsame.mono (by decide) (by decide)⟩
    · exact retN X0 hx (t := .boolean) Bd.returns (by simp) (hb hby d8_23) hr
    · show Q8 Z r0 p1 p2 p3 B0 h0 n0 _ s₁.heap _
      rw [e0]
      exact ⟨congrArg (fun z => some (Value.int z)) (show f8 p1 p2 p3 B0 = (0 : Int32) from (by unfold f8; rw [if_pos hc2_2])).symm, N0, rfl⟩
  · have k4 : own_Go p e below (s₁.setTop (entryFrame m #[(.ref r0), (.int p1), (.int p2), (.int p3)] 4)) (s₁.setTop (mkF m 7 #[.val (.ref r0), .val (.int p1), .val (.int p2), .val (.int p3)] [(.int p2), (.int p3)])) := by
      intro t k
      refine k1 t ?_
      show Steps p.tables e below (s₁.setTop (mkF m 2 #[.val (.ref r0), .val (.int p1), .val (.int p2), .val (.int p3)] [(.int p3), (.int p1)])) t
      refine XS.icmpNo X0.here hx rfl (hb hby d8_2) rfl (flt hc2_2).2.2.1 ?_
      show Steps p.tables e below (s₁.setTop (mkF m 5 #[.val (.ref r0), .val (.int p1), .val (.int p2), .val (.int p3)] [])) t
      refine XS.iloadN X0.here hx rfl (hb hby d8_5) rfl ?_
      show Steps p.tables e below (s₁.setTop (mkF m 6 #[.val (.ref r0), .val (.int p1), .val (.int p2), .val (.int p3)] [(.int p3)])) t
      refine XS.iloadN X0.here hx rfl (hb hby d8_6) rfl ?_
      exact k
    by_cases hc7_5 : p3 < p2
    · have k6 : own_Go p e below (s₁.setTop (entryFrame m #[(.ref r0), (.int p1), (.int p2), (.int p3)] 4)) (s₁.setTop (mkF m 15 #[.val (.ref r0), .val (.int p1), .val (.int p2), .val (.int p3)] [(.int (10 : Int32)), (.int (B0 (p3).toNatClampNeg))])) := by
        intro t k
        refine k4 t ?_
        show Steps p.tables e below (s₁.setTop (mkF m 7 #[.val (.ref r0), .val (.int p1), .val (.int p2), .val (.int p3)] [(.int p2), (.int p3)])) t
        refine XS.icmpNo X0.here hx rfl (hb hby d8_7) rfl (tlt hc7_5).2.1 ?_
        show Steps p.tables e below (s₁.setTop (mkF m 10 #[.val (.ref r0), .val (.int p1), .val (.int p2), .val (.int p3)] [])) t
        refine XS.aloadN X0.here hx rfl (hb hby d8_10) rfl rfl ?_
        show Steps p.tables e below (s₁.setTop (mkF m 11 #[.val (.ref r0), .val (.int p1), .val (.int p2), .val (.int p3)] [(.ref r0)])) t
        refine XS.iloadN X0.here hx rfl (hb hby d8_11) rfl ?_
        show Steps p.tables e below (s₁.setTop (mkF m 12 #[.val (.ref r0), .val (.int p1), .val (.int p2), .val (.int p3)] [(.int p3), (.ref r0)])) t
        refine own_bld X0 hx hZ e0 V_r0 (j := p3) hi.1 hi.2 (g := (mkF m 12 #[.val (.ref r0), .val (.int p1), .val (.int p2), .val (.int p3)] [(.int p3), (.ref r0)])) rfl rfl (hb hby d8_12) _ ?_
        show Steps p.tables e below (s₁.setTop (mkF m 13 #[.val (.ref r0), .val (.int p1), .val (.int p2), .val (.int p3)] [(.int (B0 (p3).toNatClampNeg))])) t
        refine XS.bipush X0.here hx rfl (hb hby d8_13) ?_
        exact k
      by_cases hc15_7 : (B0 (p3).toNatClampNeg) = (10 : Int32)
      · have k8 : own_Go p e below (s₁.setTop (entryFrame m #[(.ref r0), (.int p1), (.int p2), (.int p3)] 4)) (s₁.setTop (mkF m 23 #[.val (.ref r0), .val (.int p1), .val (.int p2), .val (.int p3)] [(.int (1 : Int32))])) := by
          intro t k
          refine k6 t ?_
          show Steps p.tables e below (s₁.setTop (mkF m 15 #[.val (.ref r0), .val (.int p1), .val (.int p2), .val (.int p3)] [(.int (10 : Int32)), (.int (B0 (p3).toNatClampNeg))])) t
          refine XS.icmpNo X0.here hx rfl (hb hby d8_15) rfl (teq hc15_7).2 ?_
          show Steps p.tables e below (s₁.setTop (mkF m 18 #[.val (.ref r0), .val (.int p1), .val (.int p2), .val (.int p3)] [])) t
          refine XS.iconst X0.here hx rfl (hb hby d8_18) ?_
          show Steps p.tables e below (s₁.setTop (mkF m 19 #[.val (.ref r0), .val (.int p1), .val (.int p2), .val (.int p3)] [(.int (1 : Int32))])) t
          refine XS.goto X0.here hx rfl (pc0 := 19) (pc' := 23) rfl (hb hby d8_19) (by decide) (by decide) ?_
          exact k
        obtain ⟨fs, hr, hrun, hended, hW, hsame⟩ := X0.leave (v := some (.int (1 : Int32))) (fun h => by rw [Bd.returns] at h; cases h)
        refine ⟨_, _, k8 _ ?_, hrun, hended, _, _, rfl, ?_, ⟨_, rfl⟩, hW, hsame.mono (by decide) (by decide)⟩
        · exact retN X0 hx (t := .boolean) Bd.returns (by simp) (hb hby d8_23) hr
        · show Q8 Z r0 p1 p2 p3 B0 h0 n0 _ s₁.heap _
          rw [e0]
          exact ⟨congrArg (fun z => some (Value.int z)) (show f8 p1 p2 p3 B0 = (1 : Int32) from (by unfold f8; rw [if_neg hc2_2, if_pos hc7_5, if_pos hc15_7])).symm, N0, rfl⟩
      · have k9 : own_Go p e below (s₁.setTop (entryFrame m #[(.ref r0), (.int p1), (.int p2), (.int p3)] 4)) (s₁.setTop (mkF m 23 #[.val (.ref r0), .val (.int p1), .val (.int p2), .val (.int p3)] [(.int (0 : Int32))])) := by
          intro t k
          refine k6 t ?_
          show Steps p.tables e below (s₁.setTop (mkF m 15 #[.val (.ref r0), .val (.int p1), .val (.int p2), .val (.int p3)] [(.int (10 : Int32)), (.int (B0 (p3).toNatClampNeg))])) t
          refine XS.icmpYes X0.here hx rfl (pc0 := 15) (pc' := 22) rfl (hb hby d8_15) rfl (feq hc15_7).2 (by decide) (by decide) ?_
          show Steps p.tables e below (s₁.setTop (mkF m 22 #[.val (.ref r0), .val (.int p1), .val (.int p2), .val (.int p3)] [])) t
          refine XS.iconst X0.here hx rfl (hb hby d8_22) ?_
          exact k
        obtain ⟨fs, hr, hrun, hended, hW, hsame⟩ := X0.leave (v := some (.int (0 : Int32))) (fun h => by rw [Bd.returns] at h; cases h)
        refine ⟨_, _, k9 _ ?_, hrun, hended, _, _, rfl, ?_, ⟨_, rfl⟩, hW, hsame.mono (by decide) (by decide)⟩
        · exact retN X0 hx (t := .boolean) Bd.returns (by simp) (hb hby d8_23) hr
        · show Q8 Z r0 p1 p2 p3 B0 h0 n0 _ s₁.heap _
          rw [e0]
          exact ⟨congrArg (fun z => some (Value.int z)) (show f8 p1 p2 p3 B0 = (0 : Int32) from (by unfold f8; rw [if_neg hc2_2, if_pos hc7_5, if_neg hc15_7])).symm, N0, rfl⟩
    · have k10 : own_Go p e below (s₁.setTop (entryFrame m #[(.ref r0), (.int p1), (.int p2), (.int p3)] 4)) (s₁.setTop (mkF m 23 #[.val (.ref r0), .val (.int p1), .val (.int p2), .val (.int p3)] [(.int (0 : Int32))])) := by
        intro t k
        refine k4 t ?_
        show Steps p.tables e below (s₁.setTop (mkF m 7 #[.val (.ref r0), .val (.int p1), .val (.int p2), .val (.int p3)] [(.int p2), (.int p3)])) t
        refine XS.icmpYes X0.here hx rfl (pc0 := 7) (pc' := 22) rfl (hb hby d8_7) rfl (flt hc7_5).2.1 (by decide) (by decide) ?_
        show Steps p.tables e below (s₁.setTop (mkF m 22 #[.val (.ref r0), .val (.int p1), .val (.int p2), .val (.int p3)] [])) t
        refine XS.iconst X0.here hx rfl (hb hby d8_22) ?_
        exact k
      obtain ⟨fs, hr, hrun, hended, hW, hsame⟩ := X0.leave (v := some (.int (0 : Int32))) (fun h => by rw [Bd.returns] at h; cases h)
      refine ⟨_, _, k10 _ ?_, hrun, hended, _, _, rfl, ?_, ⟨_, rfl⟩, hW, hsame.mono (by decide) (by decide)⟩
      · exact retN X0 hx (t := .boolean) Bd.returns (by simp) (hb hby d8_23) hr
      · show Q8 Z r0 p1 p2 p3 B0 h0 n0 _ s₁.heap _
        rw [e0]
        exact ⟨congrArg (fun z => some (Value.int z)) (show f8 p1 p2 p3 B0 = (0 : Int32) from (by unfold f8; rw [if_neg hc2_2, if_neg hc7_5])).symm, N0, rfl⟩
theorem d9_0 : decode method_4_code 0 = .ok (.iload_n 2, 1) := by decide +kernel
theorem d9_1 : decode method_4_code 1 = .ok (.iload_n 1, 1) := by decide +kernel
theorem d9_2 : decode method_4_code 2 = .ok (.if_icmp .ne 5, 3) := by decide +kernel
theorem d9_5 : decode method_4_code 5 = .ok (.iconst 1, 1) := by decide +kernel
theorem d9_6 : decode method_4_code 6 = .ok (.ireturn, 1) := by decide +kernel
theorem d9_7 : decode method_4_code 7 = .ok (.aload_n 0, 1) := by decide +kernel
theorem d9_8 : decode method_4_code 8 = .ok (.iload_n 2, 1) := by decide +kernel
theorem d9_9 : decode method_4_code 9 = .ok (.iconst 1, 1) := by decide +kernel
theorem d9_10 : decode method_4_code 10 = .ok (.isub, 1) := by decide +kernel
theorem d9_11 : decode method_4_code 11 = .ok (.baload, 1) := by decide +kernel
theorem d9_12 : decode method_4_code 12 = .ok (.bipush 10, 2) := by decide +kernel
theorem d9_14 : decode method_4_code 14 = .ok (.if_icmp .ne 5, 3) := by decide +kernel
theorem d9_17 : decode method_4_code 17 = .ok (.iconst 1, 1) := by decide +kernel
theorem d9_18 : decode method_4_code 18 = .ok (.ireturn, 1) := by decide +kernel
theorem d9_19 : decode method_4_code 19 = .ok (.aload_n 0, 1) := by decide +kernel
theorem d9_20 : decode method_4_code 20 = .ok (.iload_n 2, 1) := by decide +kernel
theorem d9_21 : decode method_4_code 21 = .ok (.iconst 1, 1) := by decide +kernel
theorem d9_22 : decode method_4_code 22 = .ok (.isub, 1) := by decide +kernel
theorem d9_23 : decode method_4_code 23 = .ok (.baload, 1) := by decide +kernel
theorem d9_24 : decode method_4_code 24 = .ok (.bipush 13, 2) := by decide +kernel
theorem d9_26 : decode method_4_code 26 = .ok (.if_icmp .eq 5, 3) := by decide +kernel
theorem d9_29 : decode method_4_code 29 = .ok (.iconst 0, 1) := by decide +kernel
theorem d9_30 : decode method_4_code 30 = .ok (.ireturn, 1) := by decide +kernel
theorem d9_31 : decode method_4_code 31 = .ok (.iload_n 2, 1) := by decide +kernel
theorem d9_32 : decode method_4_code 32 = .ok (.iconst 1, 1) := by decide +kernel
theorem d9_33 : decode method_4_code 33 = .ok (.isub, 1) := by decide +kernel
theorem d9_34 : decode method_4_code 34 = .ok (.iload_n 1, 1) := by decide +kernel
theorem d9_35 : decode method_4_code 35 = .ok (.if_icmp .eq 13, 3) := by decide +kernel
theorem d9_38 : decode method_4_code 38 = .ok (.aload_n 0, 1) := by decide +kernel
theorem d9_39 : decode method_4_code 39 = .ok (.iload_n 2, 1) := by decide +kernel
theorem d9_40 : decode method_4_code 40 = .ok (.iconst 2, 1) := by decide +kernel
theorem d9_41 : decode method_4_code 41 = .ok (.isub, 1) := by decide +kernel
theorem d9_42 : decode method_4_code 42 = .ok (.baload, 1) := by decide +kernel
theorem d9_43 : decode method_4_code 43 = .ok (.bipush 10, 2) := by decide +kernel
theorem d9_45 : decode method_4_code 45 = .ok (.if_icmp .ne 7, 3) := by decide +kernel
theorem d9_48 : decode method_4_code 48 = .ok (.iconst 1, 1) := by decide +kernel
theorem d9_49 : decode method_4_code 49 = .ok (.goto 4, 3) := by decide +kernel
theorem d9_52 : decode method_4_code 52 = .ok (.iconst 0, 1) := by decide +kernel
theorem d9_53 : decode method_4_code 53 = .ok (.ireturn, 1) := by decide +kernel
theorem ef_9 (m : MethodId) (r0 : Addr) (p1 : Int32) (p2 : Int32) : entryFrame m #[(.ref r0), (.int p1), (.int p2)] 3 = mkF m 0 #[.val (.ref r0), .val (.int p1), .val (.int p2)] [] := by first | (simp [entryFrame, mkF, argsToLocals, Value.category]; done) | rfl
def f9 (p1 : Int32) (p2 : Int32) (B0 : Nat → Int32) : Int32 := (if p2 = p1 then (1 : Int32) else (if (B0 ((p2 - (1 : Int32))).toNatClampNeg) = (10 : Int32) then (1 : Int32) else (if (B0 ((p2 - (1 : Int32))).toNatClampNeg) = (13 : Int32) then (if (p2 - (1 : Int32)) = p1 then (1 : Int32) else (if (B0 ((p2 - (2 : Int32))).toNatClampNeg) = (10 : Int32) then (1 : Int32) else (0 : Int32))) else (0 : Int32))))
def Q9 (Z : State) (r0 : Addr) (p1 : Int32) (p2 : Int32) (B0 : Nat → Int32) (h0 : Heap) (n0 : Nat) (v : Option Value) (h : Heap) (L : List Loc) : Prop := v = some (.int (f9 p1 p2 B0)) ∧ Fr n0 L ∧ h = h0
set_option maxRecDepth 65536 in
set_option maxHeartbeats 40000000 in
theorem rm9 (l : Launch) (Z : State) (a0 : Array Value) (hw : ∀ d ∈ tables_1, d.before a0 Z = true) (ws : List Jvm.Cond) (r0 : Addr) (p1 : Int32) (p2 : Int32) (B0 : Nat → Int32) (h0 : Heap) (n0 : Nat) (Z0 : n0 ≤ h0.size) (V_r0 : own_By Z h0 r0 6 B0) (hp : 0 ≤ p1.toInt ∧ p1.toInt ≤ p2.toInt ∧ p2.toInt < 6) :
    MetFree l (⟨"com/example/dosewire/dosewire/server/net/EndEndsInPinLaw", "emptyLine", "([BII)Z"⟩ : MethodName) (head1 (Jvm.Cond.code (⟨"com/example/dosewire/dosewire/server/net/EndEndsInPinLaw", "emptyLine", "([BII)Z"⟩ : MethodName) method_4_code 3 (some .boolean) :: ws) ({ frames := 0, cells := 0, slots := 0, locals := 0 } : Room)) (fun a U => a = #[(.ref r0), (.int p1), (.int p2)] ∧ Z.Warmed39 U.vm ∧ U.heap = h0) (fun _ _ _ _ _ => True) (fun _ U o U' => ∃ v L, o = .returned v ∧ Q9 Z r0 p1 p2 B0 h0 n0 v U'.heap L ∧ FrameEnd U o U' L ({ frames := 0, cells := 0, slots := 0, locals := 0 } : Room).cells ({ frames := 0, cells := 0, slots := 0, locals := 0 } : Room).slots) := by
  refine MetFree.of_bodySF (plainFor_of_name pn_0) hisR ?_
  intro p e s m args below meth c s₁ Bd hml0 hP hK
  obtain ⟨rfl, hZ, hh⟩ := hP
  have hx := Bd.exec
  have hby := Bd.bytes
  have hml : c.maxLocals = 3 := hml0
  have hown : s.vm.findClass "com/example/dosewire/dosewire/server/net/EndEndsInPinLaw" = some m.cls := findClass_of_methodNamed Bd.named
  have hnm := (name_of_methodNamed Bd.named Bd.method).1
  have X0 : Stand p l e ({ frames := 0, cells := 0, slots := 0, locals := 0 } : Room) s m #[(.ref r0), (.int p1), (.int p2)] below meth c s₁ [] 0 0 := Stand.of_body Bd
  have e0 : s₁.heap = h0 := by rw [← hh, Bd.state]; rfl
  have N0 := Fr.nil n0
  have pre0 : own_Go p e below (s₁.setTop (entryFrame m #[(.ref r0), (.int p1), (.int p2)] 3)) (s₁.setTop (mkF m 0 #[.val (.ref r0), .val (.int p1), .val (.int p2)] [])) := fun t k => castTop (ef_9 m r0 p1 p2) k
  have k1 : own_Go p e below (s₁.setTop (entryFrame m #[(.ref r0), (.int p1), (.int p2)] 3)) (s₁.setTop (mkF m 2 #[.val (.ref r0), .val (.int p1), .val (.int p2)] [(.int p1), (.int p2)])) := by
    intro t k
    refine pre0 t ?_
    show Steps p.tables e below (s₁.setTop (mkF m 0 #[.val (.ref r0), .val (.int p1), .val (.int p2)] [])) t
    refine XS.iloadN X0.here hx rfl (hb hby d9_0) rfl ?_
    show Steps p.tables e below (s₁.setTop (mkF m 1 #[.val (.ref r0), .val (.int p1), .val (.int p2)] [(.int p2)])) t
    refine XS.iloadN X0.here hx rfl (hb hby d9_1) rfl ?_
    exact k
  by_cases hc2_2 : p2 = p1
  · have k3 : own_Go p e below (s₁.setTop (entryFrame m #[(.ref r0), (.int p1), (.int p2)] 3)) (s₁.setTop (mkF m 6 #[.val (.ref r0), .val (.int p1), .val (.int p2)] [(.int (1 : Int32))])) := by
      intro t k
      refine k1 t ?_
      show Steps p.tables e below (s₁.setTop (mkF m 2 #[.val (.ref r0), .val (.int p1), .val (.int p2)] [(.int p1), (.int p2)])) t
      refine XS.icmpNo X0.here hx rfl (hb hby d9_2) rfl (teq hc2_2).2 ?_
      show Steps p.tables e below (s₁.setTop (mkF m 5 #[.val (.ref r0), .val (.int p1), .val (.int p2)] [])) t
      refine XS.iconst X0.here hx rfl (hb hby d9_5) ?_
      exact k
    obtain ⟨fs, hr, hrun, hended, hW, hsame⟩ := X0.leave (v := some (.int (1 : Int32))) (fun h => by rw [Bd.returns] at h; cases h)
    refine ⟨_, _, k3 _ ?_, hrun, hended, _, _, rfl, ?_, ⟨_, rfl⟩, hW, hsame.mono (by decide) (by decide)⟩
    · exact retN X0 hx (t := .boolean) Bd.returns (by simp) (hb hby d9_6) hr
    · show Q9 Z r0 p1 p2 B0 h0 n0 _ s₁.heap _
      rw [e0]
      exact ⟨congrArg (fun z => some (Value.int z)) (show f9 p1 p2 B0 = (1 : Int32) from (by unfold f9; rw [if_pos hc2_2])).symm, N0, rfl⟩
  · have k4 : own_Go p e below (s₁.setTop (entryFrame m #[(.ref r0), (.int p1), (.int p2)] 3)) (s₁.setTop (mkF m 14 #[.val (.ref r0), .val (.int p1), .val (.int p2)] [(.int (10 : Int32)), (.int (B0 ((p2 - (1 : Int32))).toNatClampNeg))])) := by
      intro t k
      refine k1 t ?_
      show Steps p.tables e below (s₁.setTop (mkF m 2 #[.val (.ref r0), .val (.int p1), .val (.int p2)] [(.int p1), (.int p2)])) t
      refine XS.icmpYes X0.here hx rfl (pc0 := 2) (pc' := 7) rfl (hb hby d9_2) rfl (feq hc2_2).2 (by decide) (by decide) ?_
      show Steps p.tables e below (s₁.setTop (mkF m 7 #[.val (.ref r0), .val (.int p1), .val (.int p2)] [])) t
      refine XS.aloadN X0.here hx rfl (hb hby d9_7) rfl rfl ?_
      show Steps p.tables e below (s₁.setTop (mkF m 8 #[.val (.ref r0), .val (.int p1), .val (.int p2)] [(.ref r0)])) t
      refine XS.iloadN X0.here hx rfl (hb hby d9_8) rfl ?_
      show Steps p.tables e below (s₁.setTop (mkF m 9 #[.val (.ref r0), .val (.int p1), .val (.int p2)] [(.int p2), (.ref r0)])) t
      refine XS.iconst X0.here hx rfl (hb hby d9_9) ?_
      show Steps p.tables e below (s₁.setTop (mkF m 10 #[.val (.ref r0), .val (.int p1), .val (.int p2)] [(.int (1 : Int32)), (.int p2), (.ref r0)])) t
      refine XS.isub X0.here hx rfl (hb hby d9_10) rfl ?_
      show Steps p.tables e below (s₁.setTop (mkF m 11 #[.val (.ref r0), .val (.int p1), .val (.int p2)] [(.int (p2 - (1 : Int32))), (.ref r0)])) t
      refine own_bld X0 hx hZ e0 V_r0 (j := (p2 - (1 : Int32))) (own_e1 hp hc2_2).1 (own_e1 hp hc2_2).2 (g := (mkF m 11 #[.val (.ref r0), .val (.int p1), .val (.int p2)] [(.int (p2 - (1 : Int32))), (.ref r0)])) rfl rfl (hb hby d9_11) _ ?_
      show Steps p.tables e below (s₁.setTop (mkF m 12 #[.val (.ref r0), .val (.int p1), .val (.int p2)] [(.int (B0 ((p2 - (1 : Int32))).toNatClampNeg))])) t
      refine XS.bipush X0.here hx rfl (hb hby d9_12) ?_
      exact k
    by_cases hc14_5 : (B0 ((p2 - (1 : Int32))).toNatClampNeg) = (10 : Int32)
    · have k6 : own_Go p e below (s₁.setTop (entryFrame m #[(.ref r0), (.int p1), (.int p2)] 3)) (s₁.setTop (mkF m 18 #[.val (.ref r0), .val (.int p1), .val (.int p2)] [(.int (1 : Int32))])) := by
        intro t k
        refine k4 t ?_
        show Steps p.tables e below (s₁.setTop (mkF m 14 #[.val (.ref r0), .val (.int p1), .val (.int p2)] [(.int (10 : Int32)), (.int (B0 ((p2 - (1 : Int32))).toNatClampNeg))])) t
        refine XS.icmpNo X0.here hx rfl (hb hby d9_14) rfl (teq hc14_5).2 ?_
        show Steps p.tables e below (s₁.setTop (mkF m 17 #[.val (.ref r0), .val (.int p1), .val (.int p2)] [])) t
        refine XS.iconst X0.here hx rfl (hb hby d9_17) ?_
        exact k
      obtain ⟨fs, hr, hrun, hended, hW, hsame⟩ := X0.leave (v := some (.int (1 : Int32))) (fun h => by rw [Bd.returns] at h; cases h)
      refine ⟨_, _, k6 _ ?_, hrun, hended, _, _, rfl, ?_, ⟨_, rfl⟩, hW, hsame.mono (by decide) (by decide)⟩
      · exact retN X0 hx (t := .boolean) Bd.returns (by simp) (hb hby d9_18) hr
      · show Q9 Z r0 p1 p2 B0 h0 n0 _ s₁.heap _
        rw [e0]
        exact ⟨congrArg (fun z => some (Value.int z)) (show f9 p1 p2 B0 = (1 : Int32) from (by unfold f9; rw [if_neg hc2_2, if_pos hc14_5])).symm, N0, rfl⟩
    · have k7 : own_Go p e below (s₁.setTop (entryFrame m #[(.ref r0), (.int p1), (.int p2)] 3)) (s₁.setTop (mkF m 26 #[.val (.ref r0), .val (.int p1), .val (.int p2)] [(.int (13 : Int32)), (.int (B0 ((p2 - (1 : Int32))).toNatClampNeg))])) := by
        intro t k
        refine k4 t ?_
        show Steps p.tables e below (s₁.setTop (mkF m 14 #[.val (.ref r0), .val (.int p1), .val (.int p2)] [(.int (10 : Int32)), (.int (B0 ((p2 - (1 : Int32))).toNatClampNeg))])) t
        refine XS.icmpYes X0.here hx rfl (pc0 := 14) (pc' := 19) rfl (hb hby d9_14) rfl (feq hc14_5).2 (by decide) (by decide) ?_
        show Steps p.tables e below (s₁.setTop (mkF m 19 #[.val (.ref r0), .val (.int p1), .val (.int p2)] [])) t
        refine XS.aloadN X0.here hx rfl (hb hby d9_19) rfl rfl ?_
        show Steps p.tables e below (s₁.setTop (mkF m 20 #[.val (.ref r0), .val (.int p1), .val (.int p2)] [(.ref r0)])) t
        refine XS.iloadN X0.here hx rfl (hb hby d9_20) rfl ?_
        show Steps p.tables e below (s₁.setTop (mkF m 21 #[.val (.ref r0), .val (.int p1), .val (.int p2)] [(.int p2), (.ref r0)])) t
        refine XS.iconst X0.here hx rfl (hb hby d9_21) ?_
        show Steps p.tables e below (s₁.setTop (mkF m 22 #[.val (.ref r0), .val (.int p1), .val (.int p2)] [(.int (1 : Int32)), (.int p2), (.ref r0)])) t
        refine XS.isub X0.here hx rfl (hb hby d9_22) rfl ?_
        show Steps p.tables e below (s₁.setTop (mkF m 23 #[.val (.ref r0), .val (.int p1), .val (.int p2)] [(.int (p2 - (1 : Int32))), (.ref r0)])) t
        refine own_bld X0 hx hZ e0 V_r0 (j := (p2 - (1 : Int32))) (own_e1 hp hc2_2).1 (own_e1 hp hc2_2).2 (g := (mkF m 23 #[.val (.ref r0), .val (.int p1), .val (.int p2)] [(.int (p2 - (1 : Int32))), (.ref r0)])) rfl rfl (hb hby d9_23) _ ?_
        show Steps p.tables e below (s₁.setTop (mkF m 24 #[.val (.ref r0), .val (.int p1), .val (.int p2)] [(.int (B0 ((p2 - (1 : Int32))).toNatClampNeg))])) t
        refine XS.bipush X0.here hx rfl (hb hby d9_24) ?_
        exact k
      by_cases hc26_8 : (B0 ((p2 - (1 : Int32))).toNatClampNeg) = (13 : Int32)
      · have k9 : own_Go p e below (s₁.setTop (entryFrame m #[(.ref r0), (.int p1), (.int p2)] 3)) (s₁.setTop (mkF m 35 #[.val (.ref r0), .val (.int p1), .val (.int p2)] [(.int p1), (.int (p2 - (1 : Int32)))])) := by
          intro t k
          refine k7 t ?_
          show Steps p.tables e below (s₁.setTop (mkF m 26 #[.val (.ref r0), .val (.int p1), .val (.int p2)] [(.int (13 : Int32)), (.int (B0 ((p2 - (1 : Int32))).toNatClampNeg))])) t
          refine XS.icmpYes X0.here hx rfl (pc0 := 26) (pc' := 31) rfl (hb hby d9_26) rfl (teq hc26_8).1 (by decide) (by decide) ?_
          show Steps p.tables e below (s₁.setTop (mkF m 31 #[.val (.ref r0), .val (.int p1), .val (.int p2)] [])) t
          refine XS.iloadN X0.here hx rfl (hb hby d9_31) rfl ?_
          show Steps p.tables e below (s₁.setTop (mkF m 32 #[.val (.ref r0), .val (.int p1), .val (.int p2)] [(.int p2)])) t
          refine XS.iconst X0.here hx rfl (hb hby d9_32) ?_
          show Steps p.tables e below (s₁.setTop (mkF m 33 #[.val (.ref r0), .val (.int p1), .val (.int p2)] [(.int (1 : Int32)), (.int p2)])) t
          refine XS.isub X0.here hx rfl (hb hby d9_33) rfl ?_
          show Steps p.tables e below (s₁.setTop (mkF m 34 #[.val (.ref r0), .val (.int p1), .val (.int p2)] [(.int (p2 - (1 : Int32)))])) t
          refine XS.iloadN X0.here hx rfl (hb hby d9_34) rfl ?_
          exact k
        by_cases hc35_10 : (p2 - (1 : Int32)) = p1
        · have k11 : own_Go p e below (s₁.setTop (entryFrame m #[(.ref r0), (.int p1), (.int p2)] 3)) (s₁.setTop (mkF m 53 #[.val (.ref r0), .val (.int p1), .val (.int p2)] [(.int (1 : Int32))])) := by
            intro t k
            refine k9 t ?_
            show Steps p.tables e below (s₁.setTop (mkF m 35 #[.val (.ref r0), .val (.int p1), .val (.int p2)] [(.int p1), (.int (p2 - (1 : Int32)))])) t
            refine XS.icmpYes X0.here hx rfl (pc0 := 35) (pc' := 48) rfl (hb hby d9_35) rfl (teq hc35_10).1 (by decide) (by decide) ?_
            show Steps p.tables e below (s₁.setTop (mkF m 48 #[.val (.ref r0), .val (.int p1), .val (.int p2)] [])) t
            refine XS.iconst X0.here hx rfl (hb hby d9_48) ?_
            show Steps p.tables e below (s₁.setTop (mkF m 49 #[.val (.ref r0), .val (.int p1), .val (.int p2)] [(.int (1 : Int32))])) t
            refine XS.goto X0.here hx rfl (pc0 := 49) (pc' := 53) rfl (hb hby d9_49) (by decide) (by decide) ?_
            exact k
          obtain ⟨fs, hr, hrun, hended, hW, hsame⟩ := X0.leave (v := some (.int (1 : Int32))) (fun h => by rw [Bd.returns] at h; cases h)
          refine ⟨_, _, k11 _ ?_, hrun, hended, _, _, rfl, ?_, ⟨_, rfl⟩, hW, hsame.mono (by decide) (by decide)⟩
          · exact retN X0 hx (t := .boolean) Bd.returns (by simp) (hb hby d9_53) hr
          · show Q9 Z r0 p1 p2 B0 h0 n0 _ s₁.heap _
            rw [e0]
            exact ⟨congrArg (fun z => some (Value.int z)) (show f9 p1 p2 B0 = (1 : Int32) from (by unfold f9; rw [if_neg hc2_2, if_neg hc14_5, if_pos hc26_8, if_pos hc35_10])).symm, N0, rfl⟩
        · have k12 : own_Go p e below (s₁.setTop (entryFrame m #[(.ref r0), (.int p1), (.int p2)] 3)) (s₁.setTop (mkF m 45 #[.val (.ref r0), .val (.int p1), .val (.int p2)] [(.int (10 : Int32)), (.int (B0 ((p2 - (2 : Int32))).toNatClampNeg))])) := by
            intro t k
            refine k9 t ?_
            show Steps p.tables e below (s₁.setTop (mkF m 35 #[.val (.ref r0), .val (.int p1), .val (.int p2)] [(.int p1), (.int (p2 - (1 : Int32)))])) t
            refine XS.icmpNo X0.here hx rfl (hb hby d9_35) rfl (feq hc35_10).1 ?_
            show Steps p.tables e below (s₁.setTop (mkF m 38 #[.val (.ref r0), .val (.int p1), .val (.int p2)] [])) t
            refine XS.aloadN X0.here hx rfl (hb hby d9_38) rfl rfl ?_
            show Steps p.tables e below (s₁.setTop (mkF m 39 #[.val (.ref r0), .val (.int p1), .val (.int p2)] [(.ref r0)])) t
            refine XS.iloadN X0.here hx rfl (hb hby d9_39) rfl ?_
            show Steps p.tables e below (s₁.setTop (mkF m 40 #[.val (.ref r0), .val (.int p1), .val (.int p2)] [(.int p2), (.ref r0)])) t
            refine XS.iconst X0.here hx rfl (hb hby d9_40) ?_
            show Steps p.tables e below (s₁.setTop (mkF m 41 #[.val (.ref r0), .val (.int p1), .val (.int p2)] [(.int (2 : Int32)), (.int p2), (.ref r0)])) t
            refine XS.isub X0.here hx rfl (hb hby d9_41) rfl ?_
            show Steps p.tables e below (s₁.setTop (mkF m 42 #[.val (.ref r0), .val (.int p1), .val (.int p2)] [(.int (p2 - (2 : Int32))), (.ref r0)])) t
            refine own_bld X0 hx hZ e0 V_r0 (j := (p2 - (2 : Int32))) (own_e2 hp hc2_2 hc35_10).1 (own_e2 hp hc2_2 hc35_10).2 (g := (mkF m 42 #[.val (.ref r0), .val (.int p1), .val (.int p2)] [(.int (p2 - (2 : Int32))), (.ref r0)])) rfl rfl (hb hby d9_42) _ ?_
            show Steps p.tables e below (s₁.setTop (mkF m 43 #[.val (.ref r0), .val (.int p1), .val (.int p2)] [(.int (B0 ((p2 - (2 : Int32))).toNatClampNeg))])) t
            refine XS.bipush X0.here hx rfl (hb hby d9_43) ?_
            exact k
          by_cases hc45_13 : (B0 ((p2 - (2 : Int32))).toNatClampNeg) = (10 : Int32)
          · have k14 : own_Go p e below (s₁.setTop (entryFrame m #[(.ref r0), (.int p1), (.int p2)] 3)) (s₁.setTop (mkF m 53 #[.val (.ref r0), .val (.int p1), .val (.int p2)] [(.int (1 : Int32))])) := by
              intro t k
              refine k12 t ?_
              show Steps p.tables e below (s₁.setTop (mkF m 45 #[.val (.ref r0), .val (.int p1), .val (.int p2)] [(.int (10 : Int32)), (.int (B0 ((p2 - (2 : Int32))).toNatClampNeg))])) t
              refine XS.icmpNo X0.here hx rfl (hb hby d9_45) rfl (teq hc45_13).2 ?_
              show Steps p.tables e below (s₁.setTop (mkF m 48 #[.val (.ref r0), .val (.int p1), .val (.int p2)] [])) t
              refine XS.iconst X0.here hx rfl (hb hby d9_48) ?_
              show Steps p.tables e below (s₁.setTop (mkF m 49 #[.val (.ref r0), .val (.int p1), .val (.int p2)] [(.int (1 : Int32))])) t
              refine XS.goto X0.here hx rfl (pc0 := 49) (pc' := 53) rfl (hb hby d9_49) (by decide) (by decide) ?_
              exact k
            obtain ⟨fs, hr, hrun, hended, hW, hsame⟩ := X0.leave (v := some (.int (1 : Int32))) (fun h => by rw [Bd.returns] at h; cases h)
            refine ⟨_, _, k14 _ ?_, hrun, hended, _, _, rfl, ?_, ⟨_, rfl⟩, hW, hsame.mono (by decide) (by decide)⟩
            · exact retN X0 hx (t := .boolean) Bd.returns (by simp) (hb hby d9_53) hr
            · show Q9 Z r0 p1 p2 B0 h0 n0 _ s₁.heap _
              rw [e0]
              exact ⟨congrArg (fun z => some (Value.int z)) (show f9 p1 p2 B0 = (1 : Int32) from (by unfold f9; rw [if_neg hc2_2, if_neg hc14_5, if_pos hc26_8, if_neg hc35_10, if_pos hc45_13])).symm, N0, rfl⟩
          · have k15 : own_Go p e below (s₁.setTop (entryFrame m #[(.ref r0), (.int p1), (.int p2)] 3)) (s₁.setTop (mkF m 53 #[.val (.ref r0), .val (.int p1), .val (.int p2)] [(.int (0 : Int32))])) := by
              intro t k
              refine k12 t ?_
              show Steps p.tables e below (s₁.setTop (mkF m 45 #[.val (.ref r0), .val (.int p1), .val (.int p2)] [(.int (10 : Int32)), (.int (B0 ((p2 - (2 : Int32))).toNatClampNeg))])) t
              refine XS.icmpYes X0.here hx rfl (pc0 := 45) (pc' := 52) rfl (hb hby d9_45) rfl (feq hc45_13).2 (by decide) (by decide) ?_
              show Steps p.tables e below (s₁.setTop (mkF m 52 #[.val (.ref r0), .val (.int p1), .val (.int p2)] [])) t
              refine XS.iconst X0.here hx rfl (hb hby d9_52) ?_
              exact k
            obtain ⟨fs, hr, hrun, hended, hW, hsame⟩ := X0.leave (v := some (.int (0 : Int32))) (fun h => by rw [Bd.returns] at h; cases h)
            refine ⟨_, _, k15 _ ?_, hrun, hended, _, _, rfl, ?_, ⟨_, rfl⟩, hW, hsame.mono (by decide) (by decide)⟩
            · exact retN X0 hx (t := .boolean) Bd.returns (by simp) (hb hby d9_53) hr
            · show Q9 Z r0 p1 p2 B0 h0 n0 _ s₁.heap _
              rw [e0]
              exact ⟨congrArg (fun z => some (Value.int z)) (show f9 p1 p2 B0 = (0 : Int32) from (by unfold f9; rw [if_neg hc2_2, if_neg hc14_5, if_pos hc26_8, if_neg hc35_10, if_neg hc45_13])).symm, N0, rfl⟩
      · have k16 : own_Go p e below (s₁.setTop (entryFrame m #[(.ref r0), (.int p1), (.int p2)] 3)) (s₁.setTop (mkF m 30 #[.val (.ref r0), .val (.int p1), .val (.int p2)] [(.int (0 : Int32))])) := by
          intro t k
          refine k7 t ?_
          show Steps p.tables e below (s₁.setTop (mkF m 26 #[.val (.ref r0), .val (.int p1), .val (.int p2)] [(.int (13 : Int32)), (.int (B0 ((p2 - (1 : Int32))).toNatClampNeg))])) t
          refine XS.icmpNo X0.here hx rfl (hb hby d9_26) rfl (feq hc26_8).1 ?_
          show Steps p.tables e below (s₁.setTop (mkF m 29 #[.val (.ref r0), .val (.int p1), .val (.int p2)] [])) t
          refine XS.iconst X0.here hx rfl (hb hby d9_29) ?_
          exact k
        obtain ⟨fs, hr, hrun, hended, hW, hsame⟩ := X0.leave (v := some (.int (0 : Int32))) (fun h => by rw [Bd.returns] at h; cases h)
        refine ⟨_, _, k16 _ ?_, hrun, hended, _, _, rfl, ?_, ⟨_, rfl⟩, hW, hsame.mono (by decide) (by decide)⟩
        · exact retN X0 hx (t := .boolean) Bd.returns (by simp) (hb hby d9_30) hr
        · show Q9 Z r0 p1 p2 B0 h0 n0 _ s₁.heap _
          rw [e0]
          exact ⟨congrArg (fun z => some (Value.int z)) (show f9 p1 p2 B0 = (0 : Int32) from (by unfold f9; rw [if_neg hc2_2, if_neg hc14_5, if_neg hc26_8])).symm, N0, rfl⟩
theorem own_lf {p1 p2 i : Int32} {B : Nat → Int32} (hlo : 0 ≤ p1.toInt) (h0 : 0 ≤ i.toInt) (h6 : i.toInt < 6) (h : ¬ f8 p1 p2 i B = 0) : 0 ≤ p1.toInt ∧ p1.toInt ≤ i.toInt ∧ i.toInt < 6 := by
  refine ⟨hlo, ?_, h6⟩
  by_cases q : i < p1
  · exact absurd (by unfold f8; rw [if_pos q]) h
  · rw [Int32.lt_iff_toInt_lt] at q; omega

theorem pd_0 : parseMethodDescriptor "([BIII)Z" = some ⟨[(.array .byte), .int, .int, .int], some .boolean⟩ := by decide +kernel
theorem pd_1 : parseMethodDescriptor "([BII)Z" = some ⟨[(.array .byte), .int, .int], some .boolean⟩ := by decide +kernel
theorem d7_0 : decode method_5_code 0 = .ok (.iconst 0, 1) := by decide +kernel
theorem d7_1 : decode method_5_code 1 = .ok (.istore_n 3, 1) := by decide +kernel
theorem d7_2 : decode method_5_code 2 = .ok (.iconst 0, 1) := by decide +kernel
theorem d7_3 : decode method_5_code 3 = .ok (.istore 4, 2) := by decide +kernel
theorem d7_5 : decode method_5_code 5 = .ok (.aload_n 0, 1) := by decide +kernel
theorem d7_6 : decode method_5_code 6 = .ok (.iload_n 1, 1) := by decide +kernel
theorem d7_7 : decode method_5_code 7 = .ok (.iload_n 2, 1) := by decide +kernel
theorem d7_8 : decode method_5_code 8 = .ok (.iconst 0, 1) := by decide +kernel
theorem d7_9 : decode method_5_code 9 = .ok (.invokestatic 7, 3) := by decide +kernel
theorem d7_12 : decode method_5_code 12 = .ok (.istore 5, 2) := by decide +kernel
theorem d7_14 : decode method_5_code 14 = .ok (.iload 4, 2) := by decide +kernel
theorem d7_16 : decode method_5_code 16 = .ok (.iload 5, 2) := by decide +kernel
theorem d7_18 : decode method_5_code 18 = .ok (.ifCond .eq 20, 3) := by decide +kernel
theorem d7_21 : decode method_5_code 21 = .ok (.aload_n 0, 1) := by decide +kernel
theorem d7_22 : decode method_5_code 22 = .ok (.iload_n 1, 1) := by decide +kernel
theorem d7_23 : decode method_5_code 23 = .ok (.iconst 0, 1) := by decide +kernel
theorem d7_24 : decode method_5_code 24 = .ok (.invokestatic 13, 3) := by decide +kernel
theorem d7_27 : decode method_5_code 27 = .ok (.ifCond .eq 11, 3) := by decide +kernel
theorem d7_30 : decode method_5_code 30 = .ok (.iload_n 3, 1) := by decide +kernel
theorem d7_31 : decode method_5_code 31 = .ok (.ifCond .eq 7, 3) := by decide +kernel
theorem d7_38 : decode method_5_code 38 = .ok (.iconst 0, 1) := by decide +kernel
theorem d7_39 : decode method_5_code 39 = .ok (.ior, 1) := by decide +kernel
theorem d7_40 : decode method_5_code 40 = .ok (.istore 4, 2) := by decide +kernel
theorem d7_42 : decode method_5_code 42 = .ok (.iload_n 3, 1) := by decide +kernel
theorem d7_43 : decode method_5_code 43 = .ok (.iload 5, 2) := by decide +kernel
theorem d7_45 : decode method_5_code 45 = .ok (.ifCond .eq 16, 3) := by decide +kernel
theorem d7_48 : decode method_5_code 48 = .ok (.aload_n 0, 1) := by decide +kernel
theorem d7_49 : decode method_5_code 49 = .ok (.iload_n 1, 1) := by decide +kernel
theorem d7_50 : decode method_5_code 50 = .ok (.iconst 0, 1) := by decide +kernel
theorem d7_51 : decode method_5_code 51 = .ok (.invokestatic 13, 3) := by decide +kernel
theorem d7_54 : decode method_5_code 54 = .ok (.ifCond .ne 7, 3) := by decide +kernel
theorem d7_57 : decode method_5_code 57 = .ok (.iconst 1, 1) := by decide +kernel
theorem d7_58 : decode method_5_code 58 = .ok (.goto 4, 3) := by decide +kernel
theorem d7_61 : decode method_5_code 61 = .ok (.iconst 0, 1) := by decide +kernel
theorem d7_62 : decode method_5_code 62 = .ok (.ior, 1) := by decide +kernel
theorem d7_63 : decode method_5_code 63 = .ok (.istore_n 3, 1) := by decide +kernel
theorem d7_64 : decode method_5_code 64 = .ok (.aload_n 0, 1) := by decide +kernel
theorem d7_65 : decode method_5_code 65 = .ok (.iload_n 1, 1) := by decide +kernel
theorem d7_66 : decode method_5_code 66 = .ok (.iload_n 2, 1) := by decide +kernel
theorem d7_67 : decode method_5_code 67 = .ok (.iconst 1, 1) := by decide +kernel
theorem d7_68 : decode method_5_code 68 = .ok (.invokestatic 7, 3) := by decide +kernel
theorem d7_71 : decode method_5_code 71 = .ok (.istore 5, 2) := by decide +kernel
theorem d7_73 : decode method_5_code 73 = .ok (.iload 4, 2) := by decide +kernel
theorem d7_75 : decode method_5_code 75 = .ok (.iload 5, 2) := by decide +kernel
theorem d7_77 : decode method_5_code 77 = .ok (.ifCond .eq 20, 3) := by decide +kernel
theorem d7_80 : decode method_5_code 80 = .ok (.aload_n 0, 1) := by decide +kernel
theorem d7_81 : decode method_5_code 81 = .ok (.iload_n 1, 1) := by decide +kernel
theorem d7_82 : decode method_5_code 82 = .ok (.iconst 1, 1) := by decide +kernel
theorem d7_83 : decode method_5_code 83 = .ok (.invokestatic 13, 3) := by decide +kernel
theorem d7_86 : decode method_5_code 86 = .ok (.ifCond .eq 11, 3) := by decide +kernel
theorem d7_89 : decode method_5_code 89 = .ok (.iload_n 3, 1) := by decide +kernel
theorem d7_90 : decode method_5_code 90 = .ok (.ifCond .eq 7, 3) := by decide +kernel
theorem d7_93 : decode method_5_code 93 = .ok (.iconst 1, 1) := by decide +kernel
theorem d7_94 : decode method_5_code 94 = .ok (.goto 4, 3) := by decide +kernel
theorem d7_97 : decode method_5_code 97 = .ok (.iconst 0, 1) := by decide +kernel
theorem d7_98 : decode method_5_code 98 = .ok (.ior, 1) := by decide +kernel
theorem d7_99 : decode method_5_code 99 = .ok (.istore 4, 2) := by decide +kernel
theorem d7_101 : decode method_5_code 101 = .ok (.iload_n 3, 1) := by decide +kernel
theorem d7_102 : decode method_5_code 102 = .ok (.iload 5, 2) := by decide +kernel
theorem d7_104 : decode method_5_code 104 = .ok (.ifCond .eq 16, 3) := by decide +kernel
theorem d7_107 : decode method_5_code 107 = .ok (.aload_n 0, 1) := by decide +kernel
theorem d7_108 : decode method_5_code 108 = .ok (.iload_n 1, 1) := by decide +kernel
theorem d7_109 : decode method_5_code 109 = .ok (.iconst 1, 1) := by decide +kernel
theorem d7_110 : decode method_5_code 110 = .ok (.invokestatic 13, 3) := by decide +kernel
theorem d7_113 : decode method_5_code 113 = .ok (.ifCond .ne 7, 3) := by decide +kernel
theorem d7_116 : decode method_5_code 116 = .ok (.iconst 1, 1) := by decide +kernel
theorem d7_117 : decode method_5_code 117 = .ok (.goto 4, 3) := by decide +kernel
theorem d7_120 : decode method_5_code 120 = .ok (.iconst 0, 1) := by decide +kernel
theorem d7_121 : decode method_5_code 121 = .ok (.ior, 1) := by decide +kernel
theorem d7_122 : decode method_5_code 122 = .ok (.istore_n 3, 1) := by decide +kernel
theorem d7_123 : decode method_5_code 123 = .ok (.aload_n 0, 1) := by decide +kernel
theorem d7_124 : decode method_5_code 124 = .ok (.iload_n 1, 1) := by decide +kernel
theorem d7_125 : decode method_5_code 125 = .ok (.iload_n 2, 1) := by decide +kernel
theorem d7_126 : decode method_5_code 126 = .ok (.iconst 2, 1) := by decide +kernel
theorem d7_127 : decode method_5_code 127 = .ok (.invokestatic 7, 3) := by decide +kernel
theorem d7_130 : decode method_5_code 130 = .ok (.istore 5, 2) := by decide +kernel
theorem d7_132 : decode method_5_code 132 = .ok (.iload 4, 2) := by decide +kernel
theorem d7_134 : decode method_5_code 134 = .ok (.iload 5, 2) := by decide +kernel
theorem d7_136 : decode method_5_code 136 = .ok (.ifCond .eq 20, 3) := by decide +kernel
theorem d7_139 : decode method_5_code 139 = .ok (.aload_n 0, 1) := by decide +kernel
theorem d7_140 : decode method_5_code 140 = .ok (.iload_n 1, 1) := by decide +kernel
theorem d7_141 : decode method_5_code 141 = .ok (.iconst 2, 1) := by decide +kernel
theorem d7_142 : decode method_5_code 142 = .ok (.invokestatic 13, 3) := by decide +kernel
theorem d7_145 : decode method_5_code 145 = .ok (.ifCond .eq 11, 3) := by decide +kernel
theorem d7_148 : decode method_5_code 148 = .ok (.iload_n 3, 1) := by decide +kernel
theorem d7_149 : decode method_5_code 149 = .ok (.ifCond .eq 7, 3) := by decide +kernel
theorem d7_152 : decode method_5_code 152 = .ok (.iconst 1, 1) := by decide +kernel
theorem d7_153 : decode method_5_code 153 = .ok (.goto 4, 3) := by decide +kernel
theorem d7_156 : decode method_5_code 156 = .ok (.iconst 0, 1) := by decide +kernel
theorem d7_157 : decode method_5_code 157 = .ok (.ior, 1) := by decide +kernel
theorem d7_158 : decode method_5_code 158 = .ok (.istore 4, 2) := by decide +kernel
theorem d7_160 : decode method_5_code 160 = .ok (.iload_n 3, 1) := by decide +kernel
theorem d7_161 : decode method_5_code 161 = .ok (.iload 5, 2) := by decide +kernel
theorem d7_163 : decode method_5_code 163 = .ok (.ifCond .eq 16, 3) := by decide +kernel
theorem d7_166 : decode method_5_code 166 = .ok (.aload_n 0, 1) := by decide +kernel
theorem d7_167 : decode method_5_code 167 = .ok (.iload_n 1, 1) := by decide +kernel
theorem d7_168 : decode method_5_code 168 = .ok (.iconst 2, 1) := by decide +kernel
theorem d7_169 : decode method_5_code 169 = .ok (.invokestatic 13, 3) := by decide +kernel
theorem d7_172 : decode method_5_code 172 = .ok (.ifCond .ne 7, 3) := by decide +kernel
theorem d7_175 : decode method_5_code 175 = .ok (.iconst 1, 1) := by decide +kernel
theorem d7_176 : decode method_5_code 176 = .ok (.goto 4, 3) := by decide +kernel
theorem d7_179 : decode method_5_code 179 = .ok (.iconst 0, 1) := by decide +kernel
theorem d7_180 : decode method_5_code 180 = .ok (.ior, 1) := by decide +kernel
theorem d7_181 : decode method_5_code 181 = .ok (.istore_n 3, 1) := by decide +kernel
theorem d7_182 : decode method_5_code 182 = .ok (.aload_n 0, 1) := by decide +kernel
theorem d7_183 : decode method_5_code 183 = .ok (.iload_n 1, 1) := by decide +kernel
theorem d7_184 : decode method_5_code 184 = .ok (.iload_n 2, 1) := by decide +kernel
theorem d7_185 : decode method_5_code 185 = .ok (.iconst 3, 1) := by decide +kernel
theorem d7_186 : decode method_5_code 186 = .ok (.invokestatic 7, 3) := by decide +kernel
theorem d7_189 : decode method_5_code 189 = .ok (.istore 5, 2) := by decide +kernel
theorem d7_191 : decode method_5_code 191 = .ok (.iload 4, 2) := by decide +kernel
theorem d7_193 : decode method_5_code 193 = .ok (.iload 5, 2) := by decide +kernel
theorem d7_195 : decode method_5_code 195 = .ok (.ifCond .eq 20, 3) := by decide +kernel
theorem d7_198 : decode method_5_code 198 = .ok (.aload_n 0, 1) := by decide +kernel
theorem d7_199 : decode method_5_code 199 = .ok (.iload_n 1, 1) := by decide +kernel
theorem d7_200 : decode method_5_code 200 = .ok (.iconst 3, 1) := by decide +kernel
theorem d7_201 : decode method_5_code 201 = .ok (.invokestatic 13, 3) := by decide +kernel
theorem d7_204 : decode method_5_code 204 = .ok (.ifCond .eq 11, 3) := by decide +kernel
theorem d7_207 : decode method_5_code 207 = .ok (.iload_n 3, 1) := by decide +kernel
theorem d7_208 : decode method_5_code 208 = .ok (.ifCond .eq 7, 3) := by decide +kernel
theorem d7_211 : decode method_5_code 211 = .ok (.iconst 1, 1) := by decide +kernel
theorem d7_212 : decode method_5_code 212 = .ok (.goto 4, 3) := by decide +kernel
theorem d7_215 : decode method_5_code 215 = .ok (.iconst 0, 1) := by decide +kernel
theorem d7_216 : decode method_5_code 216 = .ok (.ior, 1) := by decide +kernel
theorem d7_217 : decode method_5_code 217 = .ok (.istore 4, 2) := by decide +kernel
theorem d7_219 : decode method_5_code 219 = .ok (.iload_n 3, 1) := by decide +kernel
theorem d7_220 : decode method_5_code 220 = .ok (.iload 5, 2) := by decide +kernel
theorem d7_222 : decode method_5_code 222 = .ok (.ifCond .eq 16, 3) := by decide +kernel
theorem d7_225 : decode method_5_code 225 = .ok (.aload_n 0, 1) := by decide +kernel
theorem d7_226 : decode method_5_code 226 = .ok (.iload_n 1, 1) := by decide +kernel
theorem d7_227 : decode method_5_code 227 = .ok (.iconst 3, 1) := by decide +kernel
theorem d7_228 : decode method_5_code 228 = .ok (.invokestatic 13, 3) := by decide +kernel
theorem d7_231 : decode method_5_code 231 = .ok (.ifCond .ne 7, 3) := by decide +kernel
theorem d7_234 : decode method_5_code 234 = .ok (.iconst 1, 1) := by decide +kernel
theorem d7_235 : decode method_5_code 235 = .ok (.goto 4, 3) := by decide +kernel
theorem d7_238 : decode method_5_code 238 = .ok (.iconst 0, 1) := by decide +kernel
theorem d7_239 : decode method_5_code 239 = .ok (.ior, 1) := by decide +kernel
theorem d7_240 : decode method_5_code 240 = .ok (.istore_n 3, 1) := by decide +kernel
theorem d7_241 : decode method_5_code 241 = .ok (.aload_n 0, 1) := by decide +kernel
theorem d7_242 : decode method_5_code 242 = .ok (.iload_n 1, 1) := by decide +kernel
theorem d7_243 : decode method_5_code 243 = .ok (.iload_n 2, 1) := by decide +kernel
theorem d7_244 : decode method_5_code 244 = .ok (.iconst 4, 1) := by decide +kernel
theorem d7_245 : decode method_5_code 245 = .ok (.invokestatic 7, 3) := by decide +kernel
theorem d7_248 : decode method_5_code 248 = .ok (.istore 5, 2) := by decide +kernel
theorem d7_250 : decode method_5_code 250 = .ok (.iload 4, 2) := by decide +kernel
theorem d7_252 : decode method_5_code 252 = .ok (.iload 5, 2) := by decide +kernel
theorem d7_254 : decode method_5_code 254 = .ok (.ifCond .eq 20, 3) := by decide +kernel
theorem d7_257 : decode method_5_code 257 = .ok (.aload_n 0, 1) := by decide +kernel
theorem d7_258 : decode method_5_code 258 = .ok (.iload_n 1, 1) := by decide +kernel
theorem d7_259 : decode method_5_code 259 = .ok (.iconst 4, 1) := by decide +kernel
theorem d7_260 : decode method_5_code 260 = .ok (.invokestatic 13, 3) := by decide +kernel
theorem d7_263 : decode method_5_code 263 = .ok (.ifCond .eq 11, 3) := by decide +kernel
theorem d7_266 : decode method_5_code 266 = .ok (.iload_n 3, 1) := by decide +kernel
theorem d7_267 : decode method_5_code 267 = .ok (.ifCond .eq 7, 3) := by decide +kernel
theorem d7_270 : decode method_5_code 270 = .ok (.iconst 1, 1) := by decide +kernel
theorem d7_271 : decode method_5_code 271 = .ok (.goto 4, 3) := by decide +kernel
theorem d7_274 : decode method_5_code 274 = .ok (.iconst 0, 1) := by decide +kernel
theorem d7_275 : decode method_5_code 275 = .ok (.ior, 1) := by decide +kernel
theorem d7_276 : decode method_5_code 276 = .ok (.istore 4, 2) := by decide +kernel
theorem d7_278 : decode method_5_code 278 = .ok (.iload_n 3, 1) := by decide +kernel
theorem d7_279 : decode method_5_code 279 = .ok (.iload 5, 2) := by decide +kernel
theorem d7_281 : decode method_5_code 281 = .ok (.ifCond .eq 16, 3) := by decide +kernel
theorem d7_284 : decode method_5_code 284 = .ok (.aload_n 0, 1) := by decide +kernel
theorem d7_285 : decode method_5_code 285 = .ok (.iload_n 1, 1) := by decide +kernel
theorem d7_286 : decode method_5_code 286 = .ok (.iconst 4, 1) := by decide +kernel
theorem d7_287 : decode method_5_code 287 = .ok (.invokestatic 13, 3) := by decide +kernel
theorem d7_290 : decode method_5_code 290 = .ok (.ifCond .ne 7, 3) := by decide +kernel
theorem d7_293 : decode method_5_code 293 = .ok (.iconst 1, 1) := by decide +kernel
theorem d7_294 : decode method_5_code 294 = .ok (.goto 4, 3) := by decide +kernel
theorem d7_297 : decode method_5_code 297 = .ok (.iconst 0, 1) := by decide +kernel
theorem d7_298 : decode method_5_code 298 = .ok (.ior, 1) := by decide +kernel
theorem d7_299 : decode method_5_code 299 = .ok (.istore_n 3, 1) := by decide +kernel
theorem d7_300 : decode method_5_code 300 = .ok (.aload_n 0, 1) := by decide +kernel
theorem d7_301 : decode method_5_code 301 = .ok (.iload_n 1, 1) := by decide +kernel
theorem d7_302 : decode method_5_code 302 = .ok (.iload_n 2, 1) := by decide +kernel
theorem d7_303 : decode method_5_code 303 = .ok (.iconst 5, 1) := by decide +kernel
theorem d7_304 : decode method_5_code 304 = .ok (.invokestatic 7, 3) := by decide +kernel
theorem d7_307 : decode method_5_code 307 = .ok (.istore 5, 2) := by decide +kernel
theorem d7_309 : decode method_5_code 309 = .ok (.iload 4, 2) := by decide +kernel
theorem d7_311 : decode method_5_code 311 = .ok (.iload 5, 2) := by decide +kernel
theorem d7_313 : decode method_5_code 313 = .ok (.ifCond .eq 20, 3) := by decide +kernel
theorem d7_316 : decode method_5_code 316 = .ok (.aload_n 0, 1) := by decide +kernel
theorem d7_317 : decode method_5_code 317 = .ok (.iload_n 1, 1) := by decide +kernel
theorem d7_318 : decode method_5_code 318 = .ok (.iconst 5, 1) := by decide +kernel
theorem d7_319 : decode method_5_code 319 = .ok (.invokestatic 13, 3) := by decide +kernel
theorem d7_322 : decode method_5_code 322 = .ok (.ifCond .eq 11, 3) := by decide +kernel
theorem d7_325 : decode method_5_code 325 = .ok (.iload_n 3, 1) := by decide +kernel
theorem d7_326 : decode method_5_code 326 = .ok (.ifCond .eq 7, 3) := by decide +kernel
theorem d7_329 : decode method_5_code 329 = .ok (.iconst 1, 1) := by decide +kernel
theorem d7_330 : decode method_5_code 330 = .ok (.goto 4, 3) := by decide +kernel
theorem d7_333 : decode method_5_code 333 = .ok (.iconst 0, 1) := by decide +kernel
theorem d7_334 : decode method_5_code 334 = .ok (.ior, 1) := by decide +kernel
theorem d7_335 : decode method_5_code 335 = .ok (.istore 4, 2) := by decide +kernel
theorem d7_337 : decode method_5_code 337 = .ok (.iload 4, 2) := by decide +kernel
theorem d7_339 : decode method_5_code 339 = .ok (.ireturn, 1) := by decide +kernel
theorem ef_7 (m : MethodId) (r0 : Addr) (p1 : Int32) (p2 : Int32) : entryFrame m #[(.ref r0), (.int p1), (.int p2)] 6 = mkF m 0 #[.val (.ref r0), .val (.int p1), .val (.int p2), .unset, .unset, .unset] [] := by first | (simp [entryFrame, mkF, argsToLocals, Value.category]; done) | rfl
def v7_12 (p1 : Int32) (p2 : Int32) (B0 : Nat → Int32) : Int32 := (f8 p1 p2 (0 : Int32) B0)
def v7_40  : Int32 := ((0 : Int32) ||| (0 : Int32))
def m7_62_s0 (p1 : Int32) (p2 : Int32) (B0 : Nat → Int32) : Int32 := (if (v7_12 p1 p2 B0) = (0 : Int32) then (0 : Int32) else (if (f9 p1 (0 : Int32) B0) = (0 : Int32) then (1 : Int32) else (0 : Int32)))
def v7_63 (p1 : Int32) (p2 : Int32) (B0 : Nat → Int32) : Int32 := ((0 : Int32) ||| (m7_62_s0 p1 p2 B0))
def v7_71 (p1 : Int32) (p2 : Int32) (B0 : Nat → Int32) : Int32 := (f8 p1 p2 (1 : Int32) B0)
def m7_98_s0 (p1 : Int32) (p2 : Int32) (B0 : Nat → Int32) : Int32 := (if (v7_71 p1 p2 B0) = (0 : Int32) then (0 : Int32) else (if (f9 p1 (1 : Int32) B0) = (0 : Int32) then (0 : Int32) else (if (v7_63 p1 p2 B0) = (0 : Int32) then (0 : Int32) else (1 : Int32))))
def v7_99 (p1 : Int32) (p2 : Int32) (B0 : Nat → Int32) : Int32 := (v7_40 ||| (m7_98_s0 p1 p2 B0))
def m7_121_s0 (p1 : Int32) (p2 : Int32) (B0 : Nat → Int32) : Int32 := (if (v7_71 p1 p2 B0) = (0 : Int32) then (0 : Int32) else (if (f9 p1 (1 : Int32) B0) = (0 : Int32) then (1 : Int32) else (0 : Int32)))
def v7_122 (p1 : Int32) (p2 : Int32) (B0 : Nat → Int32) : Int32 := ((v7_63 p1 p2 B0) ||| (m7_121_s0 p1 p2 B0))
def v7_130 (p1 : Int32) (p2 : Int32) (B0 : Nat → Int32) : Int32 := (f8 p1 p2 (2 : Int32) B0)
def m7_157_s0 (p1 : Int32) (p2 : Int32) (B0 : Nat → Int32) : Int32 := (if (v7_130 p1 p2 B0) = (0 : Int32) then (0 : Int32) else (if (f9 p1 (2 : Int32) B0) = (0 : Int32) then (0 : Int32) else (if (v7_122 p1 p2 B0) = (0 : Int32) then (0 : Int32) else (1 : Int32))))
def v7_158 (p1 : Int32) (p2 : Int32) (B0 : Nat → Int32) : Int32 := ((v7_99 p1 p2 B0) ||| (m7_157_s0 p1 p2 B0))
def m7_180_s0 (p1 : Int32) (p2 : Int32) (B0 : Nat → Int32) : Int32 := (if (v7_130 p1 p2 B0) = (0 : Int32) then (0 : Int32) else (if (f9 p1 (2 : Int32) B0) = (0 : Int32) then (1 : Int32) else (0 : Int32)))
def v7_181 (p1 : Int32) (p2 : Int32) (B0 : Nat → Int32) : Int32 := ((v7_122 p1 p2 B0) ||| (m7_180_s0 p1 p2 B0))
def v7_189 (p1 : Int32) (p2 : Int32) (B0 : Nat → Int32) : Int32 := (f8 p1 p2 (3 : Int32) B0)
def m7_216_s0 (p1 : Int32) (p2 : Int32) (B0 : Nat → Int32) : Int32 := (if (v7_189 p1 p2 B0) = (0 : Int32) then (0 : Int32) else (if (f9 p1 (3 : Int32) B0) = (0 : Int32) then (0 : Int32) else (if (v7_181 p1 p2 B0) = (0 : Int32) then (0 : Int32) else (1 : Int32))))
def v7_217 (p1 : Int32) (p2 : Int32) (B0 : Nat → Int32) : Int32 := ((v7_158 p1 p2 B0) ||| (m7_216_s0 p1 p2 B0))
def m7_239_s0 (p1 : Int32) (p2 : Int32) (B0 : Nat → Int32) : Int32 := (if (v7_189 p1 p2 B0) = (0 : Int32) then (0 : Int32) else (if (f9 p1 (3 : Int32) B0) = (0 : Int32) then (1 : Int32) else (0 : Int32)))
def v7_240 (p1 : Int32) (p2 : Int32) (B0 : Nat → Int32) : Int32 := ((v7_181 p1 p2 B0) ||| (m7_239_s0 p1 p2 B0))
def v7_248 (p1 : Int32) (p2 : Int32) (B0 : Nat → Int32) : Int32 := (f8 p1 p2 (4 : Int32) B0)
def m7_275_s0 (p1 : Int32) (p2 : Int32) (B0 : Nat → Int32) : Int32 := (if (v7_248 p1 p2 B0) = (0 : Int32) then (0 : Int32) else (if (f9 p1 (4 : Int32) B0) = (0 : Int32) then (0 : Int32) else (if (v7_240 p1 p2 B0) = (0 : Int32) then (0 : Int32) else (1 : Int32))))
def v7_276 (p1 : Int32) (p2 : Int32) (B0 : Nat → Int32) : Int32 := ((v7_217 p1 p2 B0) ||| (m7_275_s0 p1 p2 B0))
def m7_298_s0 (p1 : Int32) (p2 : Int32) (B0 : Nat → Int32) : Int32 := (if (v7_248 p1 p2 B0) = (0 : Int32) then (0 : Int32) else (if (f9 p1 (4 : Int32) B0) = (0 : Int32) then (1 : Int32) else (0 : Int32)))
def v7_299 (p1 : Int32) (p2 : Int32) (B0 : Nat → Int32) : Int32 := ((v7_240 p1 p2 B0) ||| (m7_298_s0 p1 p2 B0))
def v7_307 (p1 : Int32) (p2 : Int32) (B0 : Nat → Int32) : Int32 := (f8 p1 p2 (5 : Int32) B0)
def m7_334_s0 (p1 : Int32) (p2 : Int32) (B0 : Nat → Int32) : Int32 := (if (v7_307 p1 p2 B0) = (0 : Int32) then (0 : Int32) else (if (f9 p1 (5 : Int32) B0) = (0 : Int32) then (0 : Int32) else (if (v7_299 p1 p2 B0) = (0 : Int32) then (0 : Int32) else (1 : Int32))))
def v7_335 (p1 : Int32) (p2 : Int32) (B0 : Nat → Int32) : Int32 := ((v7_276 p1 p2 B0) ||| (m7_334_s0 p1 p2 B0))
def f7 (p1 : Int32) (p2 : Int32) (B0 : Nat → Int32) : Int32 := ((v7_335 p1 p2 B0) &&& 1)
def Q7 (Z : State) (r0 : Addr) (p1 : Int32) (p2 : Int32) (B0 : Nat → Int32) (h0 : Heap) (n0 : Nat) (v : Option Value) (h : Heap) (L : List Loc) : Prop := v = some (.int (f7 p1 p2 B0)) ∧ Fr n0 L ∧ h = h0
set_option maxRecDepth 65536 in
set_option maxHeartbeats 40000000 in
theorem rm7 (l : Launch) (Z : State) (a0 : Array Value) (hw : ∀ d ∈ tables_1, d.before a0 Z = true) (ws : List Jvm.Cond) (r0 : Addr) (p1 : Int32) (p2 : Int32) (B0 : Nat → Int32) (h0 : Heap) (n0 : Nat) (Z0 : n0 ≤ h0.size) (V_r0 : own_By Z h0 r0 6 B0) (hlo : 0 ≤ p1.toInt) :
    MetFree l (⟨"com/example/dosewire/dosewire/server/net/EndEndsInPinLaw", "ends", "([BII)Z"⟩ : MethodName) (head1 (Jvm.Cond.code (⟨"com/example/dosewire/dosewire/server/net/EndEndsInPinLaw", "ends", "([BII)Z"⟩ : MethodName) method_5_code 6 (some .boolean) :: ws) ({ frames := 1, cells := 0, slots := 0, locals := 15 } : Room)) (fun a U => a = #[(.ref r0), (.int p1), (.int p2)] ∧ Z.Warmed39 U.vm ∧ U.heap = h0) (fun _ _ _ _ _ => True) (fun _ U o U' => ∃ v L, o = .returned v ∧ Q7 Z r0 p1 p2 B0 h0 n0 v U'.heap L ∧ FrameEnd U o U' L ({ frames := 1, cells := 0, slots := 0, locals := 15 } : Room).cells ({ frames := 1, cells := 0, slots := 0, locals := 15 } : Room).slots) := by
  refine MetFree.of_bodySF (plainFor_of_name pn_0) hisR ?_
  intro p e s m args below meth c s₁ Bd hml0 hP hK
  obtain ⟨rfl, hZ, hh⟩ := hP
  have hx := Bd.exec
  have hby := Bd.bytes
  have hml : c.maxLocals = 6 := hml0
  have hown : s.vm.findClass "com/example/dosewire/dosewire/server/net/EndEndsInPinLaw" = some m.cls := findClass_of_methodNamed Bd.named
  have hnm := (name_of_methodNamed Bd.named Bd.method).1
  have X0 : Stand p l e ({ frames := 1, cells := 0, slots := 0, locals := 15 } : Room) s m #[(.ref r0), (.int p1), (.int p2)] below meth c s₁ [] 0 0 := Stand.of_body Bd
  have e0 : s₁.heap = h0 := by rw [← hh, Bd.state]; rfl
  have N0 := Fr.nil n0
  have pre0 : own_Go p e below (s₁.setTop (entryFrame m #[(.ref r0), (.int p1), (.int p2)] 6)) (s₁.setTop (mkF m 0 #[.val (.ref r0), .val (.int p1), .val (.int p2), .unset, .unset, .unset] [])) := fun t k => castTop (ef_7 m r0 p1 p2) k
  have k1 : own_Go p e below (s₁.setTop (entryFrame m #[(.ref r0), (.int p1), (.int p2)] 6)) (s₁.setTop (mkF m 9 #[.val (.ref r0), .val (.int p1), .val (.int p2), .val (.int (0 : Int32)), .val (.int (0 : Int32)), .unset] [(.int (0 : Int32)), (.int p2), (.int p1), (.ref r0)])) := by
    intro t k
    refine pre0 t ?_
    show Steps p.tables e below (s₁.setTop (mkF m 0 #[.val (.ref r0), .val (.int p1), .val (.int p2), .unset, .unset, .unset] [])) t
    refine XS.iconst X0.here hx rfl (hb hby d7_0) ?_
    show Steps p.tables e below (s₁.setTop (mkF m 1 #[.val (.ref r0), .val (.int p1), .val (.int p2), .unset, .unset, .unset] [(.int (0 : Int32))])) t
    refine XS.istoreN X0.here hx rfl (hb hby d7_1) rfl (l' := #[.val (.ref r0), .val (.int p1), .val (.int p2), .val (.int (0 : Int32)), .unset, .unset]) rfl ?_
    show Steps p.tables e below (s₁.setTop (mkF m 2 #[.val (.ref r0), .val (.int p1), .val (.int p2), .val (.int (0 : Int32)), .unset, .unset] [])) t
    refine XS.iconst X0.here hx rfl (hb hby d7_2) ?_
    show Steps p.tables e below (s₁.setTop (mkF m 3 #[.val (.ref r0), .val (.int p1), .val (.int p2), .val (.int (0 : Int32)), .unset, .unset] [(.int (0 : Int32))])) t
    refine XS.istore X0.here hx rfl (hb hby d7_3) rfl (l' := #[.val (.ref r0), .val (.int p1), .val (.int p2), .val (.int (0 : Int32)), .val (.int (0 : Int32)), .unset]) rfl ?_
    show Steps p.tables e below (s₁.setTop (mkF m 5 #[.val (.ref r0), .val (.int p1), .val (.int p2), .val (.int (0 : Int32)), .val (.int (0 : Int32)), .unset] [])) t
    refine XS.aloadN X0.here hx rfl (hb hby d7_5) rfl rfl ?_
    show Steps p.tables e below (s₁.setTop (mkF m 6 #[.val (.ref r0), .val (.int p1), .val (.int p2), .val (.int (0 : Int32)), .val (.int (0 : Int32)), .unset] [(.ref r0)])) t
    refine XS.iloadN X0.here hx rfl (hb hby d7_6) rfl ?_
    show Steps p.tables e below (s₁.setTop (mkF m 7 #[.val (.ref r0), .val (.int p1), .val (.int p2), .val (.int (0 : Int32)), .val (.int (0 : Int32)), .unset] [(.int p1), (.ref r0)])) t
    refine XS.iloadN X0.here hx rfl (hb hby d7_7) rfl ?_
    show Steps p.tables e below (s₁.setTop (mkF m 8 #[.val (.ref r0), .val (.int p1), .val (.int p2), .val (.int (0 : Int32)), .val (.int (0 : Int32)), .unset] [(.int p2), (.int p1), (.ref r0)])) t
    refine XS.iconst X0.here hx rfl (hb hby d7_8) ?_
    exact k
  obtain ⟨_, _, ⟨T2, L2, kk2, n2⟩, -, X2, ⟨Lc2, hQ2, l2, y2, z2⟩, st2⟩ := Jvm.LawKit.callS X0 hx (y := (⟨"com/example/dosewire/dosewire/server/net/EndEndsInPinLaw", "lfAt", "([BIII)Z"⟩ : MethodName)) hown (mvT hZ (hw _ (List.mem_of_getElem? (i := 36) rfl))) (mvT hZ (hw _ (List.mem_of_getElem? (i := 37) rfl))) (mvT hZ (hw _ (List.mem_of_getElem? (i := 3) rfl))) (mvT hZ (hw _ (List.mem_of_getElem? (i := 38) rfl))) (by decide) (backOf (W := 0) (rm8 l Z a0 hw [] r0 p1 p2 (0 : Int32) B0 h0 n0 Z0 V_r0 ⟨by decide, by decide⟩) hZ (hw _ (List.mem_of_getElem? (i := 38) rfl)) (hw _ (List.mem_of_getElem? (i := 3) rfl)) (by decide) (by decide)) (g := (mkF m 9 #[.val (.ref r0), .val (.int p1), .val (.int p2), .val (.int (0 : Int32)), .val (.int (0 : Int32)), .unset] [(.int (0 : Int32)), (.int p2), (.int p1), (.ref r0)])) rfl (by rw [hml]; rfl) (argsL := [(.ref r0), (.int p1), (.int p2), (.int (0 : Int32))]) (rest := []) (lenOf pd_0 rfl) rfl (by show 2 * 0 + _ ≤ _; exact Nat.le_of_eq rfl) (hb hby d7_9) (fun _ _ => ⟨rfl, e0, (by decide : 0 + 0 ≤ _), (by decide : 0 + 0 ≤ _)⟩)
  dsimp only [Pt.U, Pt.locs, Pt.cells, Pt.slots] at X2 l2 y2 z2 st2 hQ2
  subst l2 y2 z2
  obtain ⟨rfl, N2q, eh2⟩ := hQ2
  have N2 := Fr.app N0 N2q
  have k3 : own_Go p e below (s₁.setTop (entryFrame m #[(.ref r0), (.int p1), (.int p2)] 6)) (T2.setTop (mkF m 12 #[.val (.ref r0), .val (.int p1), .val (.int p2), .val (.int (0 : Int32)), .val (.int (0 : Int32)), .unset] [(.int (f8 p1 p2 (0 : Int32) B0))])) := fun t k => k1 t (st2 t k)
  have k4 : own_Go p e below (s₁.setTop (entryFrame m #[(.ref r0), (.int p1), (.int p2)] 6)) (T2.setTop (mkF m 18 #[.val (.ref r0), .val (.int p1), .val (.int p2), .val (.int (0 : Int32)), .val (.int (0 : Int32)), .val (.int (v7_12 p1 p2 B0))] [(.int (v7_12 p1 p2 B0)), (.int (0 : Int32))])) := by
    intro t k
    refine k3 t ?_
    show Steps p.tables e below (T2.setTop (mkF m 12 #[.val (.ref r0), .val (.int p1), .val (.int p2), .val (.int (0 : Int32)), .val (.int (0 : Int32)), .unset] [(.int (f8 p1 p2 (0 : Int32) B0))])) t
    refine XS.istore X2.here hx rfl (hb hby d7_12) rfl (l' := #[.val (.ref r0), .val (.int p1), .val (.int p2), .val (.int (0 : Int32)), .val (.int (0 : Int32)), .val (.int (v7_12 p1 p2 B0))]) rfl ?_
    show Steps p.tables e below (T2.setTop (mkF m 14 #[.val (.ref r0), .val (.int p1), .val (.int p2), .val (.int (0 : Int32)), .val (.int (0 : Int32)), .val (.int (v7_12 p1 p2 B0))] [])) t
    refine XS.iload X2.here hx rfl (hb hby d7_14) rfl ?_
    show Steps p.tables e below (T2.setTop (mkF m 16 #[.val (.ref r0), .val (.int p1), .val (.int p2), .val (.int (0 : Int32)), .val (.int (0 : Int32)), .val (.int (v7_12 p1 p2 B0))] [(.int (0 : Int32))])) t
    refine XS.iload X2.here hx rfl (hb hby d7_16) rfl ?_
    exact k
  obtain ⟨T5, L5, X5, e5, N5, k5⟩ : ∃ (T5 : State) (L5 : List Loc), Stand p l e ({ frames := 1, cells := 0, slots := 0, locals := 15 } : Room) s m #[(.ref r0), (.int p1), (.int p2)] below meth c T5 L5 0 0 ∧ T5.heap = h0 ∧ Fr n0 L5 ∧ own_Go p e below (s₁.setTop (entryFrame m #[(.ref r0), (.int p1), (.int p2)] 6)) (T5.setTop (mkF m 39 #[.val (.ref r0), .val (.int p1), .val (.int p2), .val (.int (0 : Int32)), .val (.int (0 : Int32)), .val (.int (v7_12 p1 p2 B0))] [(.int (0 : Int32)), (.int (0 : Int32))])) := by
    by_cases hc18_6 : (v7_12 p1 p2 B0) = (0 : Int32)
    · have k7 : own_Go p e below (s₁.setTop (entryFrame m #[(.ref r0), (.int p1), (.int p2)] 6)) (T2.setTop (mkF m 39 #[.val (.ref r0), .val (.int p1), .val (.int p2), .val (.int (0 : Int32)), .val (.int (0 : Int32)), .val (.int (v7_12 p1 p2 B0))] [(.int (0 : Int32)), (.int (0 : Int32))])) := by
        intro t k
        refine k4 t ?_
        show Steps p.tables e below (T2.setTop (mkF m 18 #[.val (.ref r0), .val (.int p1), .val (.int p2), .val (.int (0 : Int32)), .val (.int (0 : Int32)), .val (.int (v7_12 p1 p2 B0))] [(.int (v7_12 p1 p2 B0)), (.int (0 : Int32))])) t
        refine XS.ifYes X2.here hx rfl (pc0 := 18) (pc' := 38) rfl (hb hby d7_18) rfl ((if0 _ _).trans (teq hc18_6).1) (by decide) (by decide) ?_
        show Steps p.tables e below (T2.setTop (mkF m 38 #[.val (.ref r0), .val (.int p1), .val (.int p2), .val (.int (0 : Int32)), .val (.int (0 : Int32)), .val (.int (v7_12 p1 p2 B0))] [(.int (0 : Int32))])) t
        refine XS.iconst X2.here hx rfl (hb hby d7_38) ?_
        exact k
      exact ⟨_, _, X2, eh2, N2, k7⟩
    · have k8 : own_Go p e below (s₁.setTop (entryFrame m #[(.ref r0), (.int p1), (.int p2)] 6)) (T2.setTop (mkF m 24 #[.val (.ref r0), .val (.int p1), .val (.int p2), .val (.int (0 : Int32)), .val (.int (0 : Int32)), .val (.int (v7_12 p1 p2 B0))] [(.int (0 : Int32)), (.int p1), (.ref r0), (.int (0 : Int32))])) := by
        intro t k
        refine k4 t ?_
        show Steps p.tables e below (T2.setTop (mkF m 18 #[.val (.ref r0), .val (.int p1), .val (.int p2), .val (.int (0 : Int32)), .val (.int (0 : Int32)), .val (.int (v7_12 p1 p2 B0))] [(.int (v7_12 p1 p2 B0)), (.int (0 : Int32))])) t
        refine XS.ifNo X2.here hx rfl (hb hby d7_18) rfl ((if0 _ _).trans (feq hc18_6).1) ?_
        show Steps p.tables e below (T2.setTop (mkF m 21 #[.val (.ref r0), .val (.int p1), .val (.int p2), .val (.int (0 : Int32)), .val (.int (0 : Int32)), .val (.int (v7_12 p1 p2 B0))] [(.int (0 : Int32))])) t
        refine XS.aloadN X2.here hx rfl (hb hby d7_21) rfl rfl ?_
        show Steps p.tables e below (T2.setTop (mkF m 22 #[.val (.ref r0), .val (.int p1), .val (.int p2), .val (.int (0 : Int32)), .val (.int (0 : Int32)), .val (.int (v7_12 p1 p2 B0))] [(.ref r0), (.int (0 : Int32))])) t
        refine XS.iloadN X2.here hx rfl (hb hby d7_22) rfl ?_
        show Steps p.tables e below (T2.setTop (mkF m 23 #[.val (.ref r0), .val (.int p1), .val (.int p2), .val (.int (0 : Int32)), .val (.int (0 : Int32)), .val (.int (v7_12 p1 p2 B0))] [(.int p1), (.ref r0), (.int (0 : Int32))])) t
        refine XS.iconst X2.here hx rfl (hb hby d7_23) ?_
        exact k
      obtain ⟨_, _, ⟨T9, L9, kk9, n9⟩, -, X9, ⟨Lc9, hQ9, l9, y9, z9⟩, st9⟩ := Jvm.LawKit.callS X2 hx (y := (⟨"com/example/dosewire/dosewire/server/net/EndEndsInPinLaw", "emptyLine", "([BII)Z"⟩ : MethodName)) hown (mvT hZ (hw _ (List.mem_of_getElem? (i := 39) rfl))) (mvT hZ (hw _ (List.mem_of_getElem? (i := 40) rfl))) (mvT hZ (hw _ (List.mem_of_getElem? (i := 3) rfl))) (mvT hZ (hw _ (List.mem_of_getElem? (i := 41) rfl))) (by decide) (backOf (W := 1) (rm9 l Z a0 hw [] r0 p1 (0 : Int32) B0 h0 n0 Z0 V_r0 (own_lf hlo (by decide) (by decide) hc18_6)) hZ (hw _ (List.mem_of_getElem? (i := 41) rfl)) (hw _ (List.mem_of_getElem? (i := 3) rfl)) (by decide) (by decide)) (g := (mkF m 24 #[.val (.ref r0), .val (.int p1), .val (.int p2), .val (.int (0 : Int32)), .val (.int (0 : Int32)), .val (.int (v7_12 p1 p2 B0))] [(.int (0 : Int32)), (.int p1), (.ref r0), (.int (0 : Int32))])) rfl (by rw [hml]; rfl) (argsL := [(.ref r0), (.int p1), (.int (0 : Int32))]) (rest := [(.int (0 : Int32))]) (lenOf pd_1 rfl) rfl (by show 2 * 0 + _ ≤ _; exact Nat.le_of_eq rfl) (hb hby d7_24) (fun _ _ => ⟨rfl, eh2, (by decide : 0 + 0 ≤ _), (by decide : 0 + 0 ≤ _)⟩)
      dsimp only [Pt.U, Pt.locs, Pt.cells, Pt.slots] at X9 l9 y9 z9 st9 hQ9
      subst l9 y9 z9
      obtain ⟨rfl, N9q, eh9⟩ := hQ9
      have N9 := Fr.app N2 N9q
      have k10 : own_Go p e below (s₁.setTop (entryFrame m #[(.ref r0), (.int p1), (.int p2)] 6)) (T9.setTop (mkF m 27 #[.val (.ref r0), .val (.int p1), .val (.int p2), .val (.int (0 : Int32)), .val (.int (0 : Int32)), .val (.int (v7_12 p1 p2 B0))] [(.int (f9 p1 (0 : Int32) B0)), (.int (0 : Int32))])) := fun t k => k8 t (st9 t k)
      by_cases hc27_11 : (f9 p1 (0 : Int32) B0) = (0 : Int32)
      · have k12 : own_Go p e below (s₁.setTop (entryFrame m #[(.ref r0), (.int p1), (.int p2)] 6)) (T9.setTop (mkF m 39 #[.val (.ref r0), .val (.int p1), .val (.int p2), .val (.int (0 : Int32)), .val (.int (0 : Int32)), .val (.int (v7_12 p1 p2 B0))] [(.int (0 : Int32)), (.int (0 : Int32))])) := by
          intro t k
          refine k10 t ?_
          show Steps p.tables e below (T9.setTop (mkF m 27 #[.val (.ref r0), .val (.int p1), .val (.int p2), .val (.int (0 : Int32)), .val (.int (0 : Int32)), .val (.int (v7_12 p1 p2 B0))] [(.int (f9 p1 (0 : Int32) B0)), (.int (0 : Int32))])) t
          refine XS.ifYes X9.here hx rfl (pc0 := 27) (pc' := 38) rfl (hb hby d7_27) rfl ((if0 _ _).trans (teq hc27_11).1) (by decide) (by decide) ?_
          show Steps p.tables e below (T9.setTop (mkF m 38 #[.val (.ref r0), .val (.int p1), .val (.int p2), .val (.int (0 : Int32)), .val (.int (0 : Int32)), .val (.int (v7_12 p1 p2 B0))] [(.int (0 : Int32))])) t
          refine XS.iconst X9.here hx rfl (hb hby d7_38) ?_
          exact k
        exact ⟨_, _, X9, eh9, N9, k12⟩
      · have k13 : own_Go p e below (s₁.setTop (entryFrame m #[(.ref r0), (.int p1), (.int p2)] 6)) (T9.setTop (mkF m 39 #[.val (.ref r0), .val (.int p1), .val (.int p2), .val (.int (0 : Int32)), .val (.int (0 : Int32)), .val (.int (v7_12 p1 p2 B0))] [(.int (0 : Int32)), (.int (0 : Int32))])) := by
          intro t k
          refine k10 t ?_
          show Steps p.tables e below (T9.setTop (mkF m 27 #[.val (.ref r0), .val (.int p1), .val (.int p2), .val (.int (0 : Int32)), .val (.int (0 : Int32)), .val (.int (v7_12 p1 p2 B0))] [(.int (f9 p1 (0 : Int32) B0)), (.int (0 : Int32))])) t
          refine XS.ifNo X9.here hx rfl (hb hby d7_27) rfl ((if0 _ _).trans (feq hc27_11).1) ?_
          show Steps p.tables e below (T9.setTop (mkF m 30 #[.val (.ref r0), .val (.int p1), .val (.int p2), .val (.int (0 : Int32)), .val (.int (0 : Int32)), .val (.int (v7_12 p1 p2 B0))] [(.int (0 : Int32))])) t
          refine XS.iloadN X9.here hx rfl (hb hby d7_30) rfl ?_
          show Steps p.tables e below (T9.setTop (mkF m 31 #[.val (.ref r0), .val (.int p1), .val (.int p2), .val (.int (0 : Int32)), .val (.int (0 : Int32)), .val (.int (v7_12 p1 p2 B0))] [(.int (0 : Int32)), (.int (0 : Int32))])) t
          refine XS.ifYes X9.here hx rfl (pc0 := 31) (pc' := 38) rfl (hb hby d7_31) rfl ((if0 _ _).trans (teq (by decide : (0 : Int32) = (0 : Int32))).1) (by decide) (by decide) ?_
          show Steps p.tables e below (T9.setTop (mkF m 38 #[.val (.ref r0), .val (.int p1), .val (.int p2), .val (.int (0 : Int32)), .val (.int (0 : Int32)), .val (.int (v7_12 p1 p2 B0))] [(.int (0 : Int32))])) t
          refine XS.iconst X9.here hx rfl (hb hby d7_38) ?_
          exact k
        exact ⟨_, _, X9, eh9, N9, k13⟩
  have k14 : own_Go p e below (s₁.setTop (entryFrame m #[(.ref r0), (.int p1), (.int p2)] 6)) (T5.setTop (mkF m 45 #[.val (.ref r0), .val (.int p1), .val (.int p2), .val (.int (0 : Int32)), .val (.int v7_40), .val (.int (v7_12 p1 p2 B0))] [(.int (v7_12 p1 p2 B0)), (.int (0 : Int32))])) := by
    intro t k
    refine k5 t ?_
    show Steps p.tables e below (T5.setTop (mkF m 39 #[.val (.ref r0), .val (.int p1), .val (.int p2), .val (.int (0 : Int32)), .val (.int (0 : Int32)), .val (.int (v7_12 p1 p2 B0))] [(.int (0 : Int32)), (.int (0 : Int32))])) t
    refine XS.ior X5.here hx rfl (hb hby d7_39) rfl ?_
    show Steps p.tables e below (T5.setTop (mkF m 40 #[.val (.ref r0), .val (.int p1), .val (.int p2), .val (.int (0 : Int32)), .val (.int (0 : Int32)), .val (.int (v7_12 p1 p2 B0))] [(.int ((0 : Int32) ||| (0 : Int32)))])) t
    refine XS.istore X5.here hx rfl (hb hby d7_40) rfl (l' := #[.val (.ref r0), .val (.int p1), .val (.int p2), .val (.int (0 : Int32)), .val (.int v7_40), .val (.int (v7_12 p1 p2 B0))]) rfl ?_
    show Steps p.tables e below (T5.setTop (mkF m 42 #[.val (.ref r0), .val (.int p1), .val (.int p2), .val (.int (0 : Int32)), .val (.int v7_40), .val (.int (v7_12 p1 p2 B0))] [])) t
    refine XS.iloadN X5.here hx rfl (hb hby d7_42) rfl ?_
    show Steps p.tables e below (T5.setTop (mkF m 43 #[.val (.ref r0), .val (.int p1), .val (.int p2), .val (.int (0 : Int32)), .val (.int v7_40), .val (.int (v7_12 p1 p2 B0))] [(.int (0 : Int32))])) t
    refine XS.iload X5.here hx rfl (hb hby d7_43) rfl ?_
    exact k
  obtain ⟨T15, L15, X15, e15, N15, k15⟩ : ∃ (T15 : State) (L15 : List Loc), Stand p l e ({ frames := 1, cells := 0, slots := 0, locals := 15 } : Room) s m #[(.ref r0), (.int p1), (.int p2)] below meth c T15 L15 0 0 ∧ T15.heap = h0 ∧ Fr n0 L15 ∧ own_Go p e below (s₁.setTop (entryFrame m #[(.ref r0), (.int p1), (.int p2)] 6)) (T15.setTop (mkF m 62 #[.val (.ref r0), .val (.int p1), .val (.int p2), .val (.int (0 : Int32)), .val (.int v7_40), .val (.int (v7_12 p1 p2 B0))] [(.int (m7_62_s0 p1 p2 B0)), (.int (0 : Int32))])) := by
    by_cases hc45_16 : (v7_12 p1 p2 B0) = (0 : Int32)
    · have k17 : own_Go p e below (s₁.setTop (entryFrame m #[(.ref r0), (.int p1), (.int p2)] 6)) (T5.setTop (mkF m 62 #[.val (.ref r0), .val (.int p1), .val (.int p2), .val (.int (0 : Int32)), .val (.int v7_40), .val (.int (v7_12 p1 p2 B0))] [(.int (0 : Int32)), (.int (0 : Int32))])) := by
        intro t k
        refine k14 t ?_
        show Steps p.tables e below (T5.setTop (mkF m 45 #[.val (.ref r0), .val (.int p1), .val (.int p2), .val (.int (0 : Int32)), .val (.int v7_40), .val (.int (v7_12 p1 p2 B0))] [(.int (v7_12 p1 p2 B0)), (.int (0 : Int32))])) t
        refine XS.ifYes X5.here hx rfl (pc0 := 45) (pc' := 61) rfl (hb hby d7_45) rfl ((if0 _ _).trans (teq hc45_16).1) (by decide) (by decide) ?_
        show Steps p.tables e below (T5.setTop (mkF m 61 #[.val (.ref r0), .val (.int p1), .val (.int p2), .val (.int (0 : Int32)), .val (.int v7_40), .val (.int (v7_12 p1 p2 B0))] [(.int (0 : Int32))])) t
        refine XS.iconst X5.here hx rfl (hb hby d7_61) ?_
        exact k
      exact ⟨_, _, X5, e5, N5, (by rw [show (m7_62_s0 p1 p2 B0) = (0 : Int32) from (by unfold m7_62_s0; rw [if_pos hc45_16])]; exact k17)⟩
    · have k18 : own_Go p e below (s₁.setTop (entryFrame m #[(.ref r0), (.int p1), (.int p2)] 6)) (T5.setTop (mkF m 51 #[.val (.ref r0), .val (.int p1), .val (.int p2), .val (.int (0 : Int32)), .val (.int v7_40), .val (.int (v7_12 p1 p2 B0))] [(.int (0 : Int32)), (.int p1), (.ref r0), (.int (0 : Int32))])) := by
        intro t k
        refine k14 t ?_
        show Steps p.tables e below (T5.setTop (mkF m 45 #[.val (.ref r0), .val (.int p1), .val (.int p2), .val (.int (0 : Int32)), .val (.int v7_40), .val (.int (v7_12 p1 p2 B0))] [(.int (v7_12 p1 p2 B0)), (.int (0 : Int32))])) t
        refine XS.ifNo X5.here hx rfl (hb hby d7_45) rfl ((if0 _ _).trans (feq hc45_16).1) ?_
        show Steps p.tables e below (T5.setTop (mkF m 48 #[.val (.ref r0), .val (.int p1), .val (.int p2), .val (.int (0 : Int32)), .val (.int v7_40), .val (.int (v7_12 p1 p2 B0))] [(.int (0 : Int32))])) t
        refine XS.aloadN X5.here hx rfl (hb hby d7_48) rfl rfl ?_
        show Steps p.tables e below (T5.setTop (mkF m 49 #[.val (.ref r0), .val (.int p1), .val (.int p2), .val (.int (0 : Int32)), .val (.int v7_40), .val (.int (v7_12 p1 p2 B0))] [(.ref r0), (.int (0 : Int32))])) t
        refine XS.iloadN X5.here hx rfl (hb hby d7_49) rfl ?_
        show Steps p.tables e below (T5.setTop (mkF m 50 #[.val (.ref r0), .val (.int p1), .val (.int p2), .val (.int (0 : Int32)), .val (.int v7_40), .val (.int (v7_12 p1 p2 B0))] [(.int p1), (.ref r0), (.int (0 : Int32))])) t
        refine XS.iconst X5.here hx rfl (hb hby d7_50) ?_
        exact k
      obtain ⟨_, _, ⟨T19, L19, kk19, n19⟩, -, X19, ⟨Lc19, hQ19, l19, y19, z19⟩, st19⟩ := Jvm.LawKit.callS X5 hx (y := (⟨"com/example/dosewire/dosewire/server/net/EndEndsInPinLaw", "emptyLine", "([BII)Z"⟩ : MethodName)) hown (mvT hZ (hw _ (List.mem_of_getElem? (i := 39) rfl))) (mvT hZ (hw _ (List.mem_of_getElem? (i := 40) rfl))) (mvT hZ (hw _ (List.mem_of_getElem? (i := 3) rfl))) (mvT hZ (hw _ (List.mem_of_getElem? (i := 41) rfl))) (by decide) (backOf (W := 1) (rm9 l Z a0 hw [] r0 p1 (0 : Int32) B0 h0 n0 Z0 V_r0 (own_lf hlo (by decide) (by decide) hc45_16)) hZ (hw _ (List.mem_of_getElem? (i := 41) rfl)) (hw _ (List.mem_of_getElem? (i := 3) rfl)) (by decide) (by decide)) (g := (mkF m 51 #[.val (.ref r0), .val (.int p1), .val (.int p2), .val (.int (0 : Int32)), .val (.int v7_40), .val (.int (v7_12 p1 p2 B0))] [(.int (0 : Int32)), (.int p1), (.ref r0), (.int (0 : Int32))])) rfl (by rw [hml]; rfl) (argsL := [(.ref r0), (.int p1), (.int (0 : Int32))]) (rest := [(.int (0 : Int32))]) (lenOf pd_1 rfl) rfl (by show 2 * 0 + _ ≤ _; exact Nat.le_of_eq rfl) (hb hby d7_51) (fun _ _ => ⟨rfl, e5, (by decide : 0 + 0 ≤ _), (by decide : 0 + 0 ≤ _)⟩)
      dsimp only [Pt.U, Pt.locs, Pt.cells, Pt.slots] at X19 l19 y19 z19 st19 hQ19
      subst l19 y19 z19
      obtain ⟨rfl, N19q, eh19⟩ := hQ19
      have N19 := Fr.app N5 N19q
      have k20 : own_Go p e below (s₁.setTop (entryFrame m #[(.ref r0), (.int p1), (.int p2)] 6)) (T19.setTop (mkF m 54 #[.val (.ref r0), .val (.int p1), .val (.int p2), .val (.int (0 : Int32)), .val (.int v7_40), .val (.int (v7_12 p1 p2 B0))] [(.int (f9 p1 (0 : Int32) B0)), (.int (0 : Int32))])) := fun t k => k18 t (st19 t k)
      by_cases hc54_21 : (f9 p1 (0 : Int32) B0) = (0 : Int32)
      · have k22 : own_Go p e below (s₁.setTop (entryFrame m #[(.ref r0), (.int p1), (.int p2)] 6)) (T19.setTop (mkF m 62 #[.val (.ref r0), .val (.int p1), .val (.int p2), .val (.int (0 : Int32)), .val (.int v7_40), .val (.int (v7_12 p1 p2 B0))] [(.int (1 : Int32)), (.int (0 : Int32))])) := by
          intro t k
          refine k20 t ?_
          show Steps p.tables e below (T19.setTop (mkF m 54 #[.val (.ref r0), .val (.int p1), .val (.int p2), .val (.int (0 : Int32)), .val (.int v7_40), .val (.int (v7_12 p1 p2 B0))] [(.int (f9 p1 (0 : Int32) B0)), (.int (0 : Int32))])) t
          refine XS.ifNo X19.here hx rfl (hb hby d7_54) rfl ((if0 _ _).trans (teq hc54_21).2) ?_
          show Steps p.tables e below (T19.setTop (mkF m 57 #[.val (.ref r0), .val (.int p1), .val (.int p2), .val (.int (0 : Int32)), .val (.int v7_40), .val (.int (v7_12 p1 p2 B0))] [(.int (0 : Int32))])) t
          refine XS.iconst X19.here hx rfl (hb hby d7_57) ?_
          show Steps p.tables e below (T19.setTop (mkF m 58 #[.val (.ref r0), .val (.int p1), .val (.int p2), .val (.int (0 : Int32)), .val (.int v7_40), .val (.int (v7_12 p1 p2 B0))] [(.int (1 : Int32)), (.int (0 : Int32))])) t
          refine XS.goto X19.here hx rfl (pc0 := 58) (pc' := 62) rfl (hb hby d7_58) (by decide) (by decide) ?_
          exact k
        exact ⟨_, _, X19, eh19, N19, (by rw [show (m7_62_s0 p1 p2 B0) = (1 : Int32) from (by unfold m7_62_s0; rw [if_neg hc45_16, if_pos hc54_21])]; exact k22)⟩
      · have k23 : own_Go p e below (s₁.setTop (entryFrame m #[(.ref r0), (.int p1), (.int p2)] 6)) (T19.setTop (mkF m 62 #[.val (.ref r0), .val (.int p1), .val (.int p2), .val (.int (0 : Int32)), .val (.int v7_40), .val (.int (v7_12 p1 p2 B0))] [(.int (0 : Int32)), (.int (0 : Int32))])) := by
          intro t k
          refine k20 t ?_
          show Steps p.tables e below (T19.setTop (mkF m 54 #[.val (.ref r0), .val (.int p1), .val (.int p2), .val (.int (0 : Int32)), .val (.int v7_40), .val (.int (v7_12 p1 p2 B0))] [(.int (f9 p1 (0 : Int32) B0)), (.int (0 : Int32))])) t
          refine XS.ifYes X19.here hx rfl (pc0 := 54) (pc' := 61) rfl (hb hby d7_54) rfl ((if0 _ _).trans (feq hc54_21).2) (by decide) (by decide) ?_
          show Steps p.tables e below (T19.setTop (mkF m 61 #[.val (.ref r0), .val (.int p1), .val (.int p2), .val (.int (0 : Int32)), .val (.int v7_40), .val (.int (v7_12 p1 p2 B0))] [(.int (0 : Int32))])) t
          refine XS.iconst X19.here hx rfl (hb hby d7_61) ?_
          exact k
        exact ⟨_, _, X19, eh19, N19, (by rw [show (m7_62_s0 p1 p2 B0) = (0 : Int32) from (by unfold m7_62_s0; rw [if_neg hc45_16, if_neg hc54_21])]; exact k23)⟩
  have k24 : own_Go p e below (s₁.setTop (entryFrame m #[(.ref r0), (.int p1), (.int p2)] 6)) (T15.setTop (mkF m 68 #[.val (.ref r0), .val (.int p1), .val (.int p2), .val (.int (v7_63 p1 p2 B0)), .val (.int v7_40), .val (.int (v7_12 p1 p2 B0))] [(.int (1 : Int32)), (.int p2), (.int p1), (.ref r0)])) := by
    intro t k
    refine k15 t ?_
    show Steps p.tables e below (T15.setTop (mkF m 62 #[.val (.ref r0), .val (.int p1), .val (.int p2), .val (.int (0 : Int32)), .val (.int v7_40), .val (.int (v7_12 p1 p2 B0))] [(.int (m7_62_s0 p1 p2 B0)), (.int (0 : Int32))])) t
    refine XS.ior X15.here hx rfl (hb hby d7_62) rfl ?_
    show Steps p.tables e below (T15.setTop (mkF m 63 #[.val (.ref r0), .val (.int p1), .val (.int p2), .val (.int (0 : Int32)), .val (.int v7_40), .val (.int (v7_12 p1 p2 B0))] [(.int ((0 : Int32) ||| (m7_62_s0 p1 p2 B0)))])) t
    refine XS.istoreN X15.here hx rfl (hb hby d7_63) rfl (l' := #[.val (.ref r0), .val (.int p1), .val (.int p2), .val (.int (v7_63 p1 p2 B0)), .val (.int v7_40), .val (.int (v7_12 p1 p2 B0))]) rfl ?_
    show Steps p.tables e below (T15.setTop (mkF m 64 #[.val (.ref r0), .val (.int p1), .val (.int p2), .val (.int (v7_63 p1 p2 B0)), .val (.int v7_40), .val (.int (v7_12 p1 p2 B0))] [])) t
    refine XS.aloadN X15.here hx rfl (hb hby d7_64) rfl rfl ?_
    show Steps p.tables e below (T15.setTop (mkF m 65 #[.val (.ref r0), .val (.int p1), .val (.int p2), .val (.int (v7_63 p1 p2 B0)), .val (.int v7_40), .val (.int (v7_12 p1 p2 B0))] [(.ref r0)])) t
    refine XS.iloadN X15.here hx rfl (hb hby d7_65) rfl ?_
    show Steps p.tables e below (T15.setTop (mkF m 66 #[.val (.ref r0), .val (.int p1), .val (.int p2), .val (.int (v7_63 p1 p2 B0)), .val (.int v7_40), .val (.int (v7_12 p1 p2 B0))] [(.int p1), (.ref r0)])) t
    refine XS.iloadN X15.here hx rfl (hb hby d7_66) rfl ?_
    show Steps p.tables e below (T15.setTop (mkF m 67 #[.val (.ref r0), .val (.int p1), .val (.int p2), .val (.int (v7_63 p1 p2 B0)), .val (.int v7_40), .val (.int (v7_12 p1 p2 B0))] [(.int p2), (.int p1), (.ref r0)])) t
    refine XS.iconst X15.here hx rfl (hb hby d7_67) ?_
    exact k
  obtain ⟨_, _, ⟨T25, L25, kk25, n25⟩, -, X25, ⟨Lc25, hQ25, l25, y25, z25⟩, st25⟩ := Jvm.LawKit.callS X15 hx (y := (⟨"com/example/dosewire/dosewire/server/net/EndEndsInPinLaw", "lfAt", "([BIII)Z"⟩ : MethodName)) hown (mvT hZ (hw _ (List.mem_of_getElem? (i := 36) rfl))) (mvT hZ (hw _ (List.mem_of_getElem? (i := 37) rfl))) (mvT hZ (hw _ (List.mem_of_getElem? (i := 3) rfl))) (mvT hZ (hw _ (List.mem_of_getElem? (i := 38) rfl))) (by decide) (backOf (W := 0) (rm8 l Z a0 hw [] r0 p1 p2 (1 : Int32) B0 h0 n0 Z0 V_r0 ⟨by decide, by decide⟩) hZ (hw _ (List.mem_of_getElem? (i := 38) rfl)) (hw _ (List.mem_of_getElem? (i := 3) rfl)) (by decide) (by decide)) (g := (mkF m 68 #[.val (.ref r0), .val (.int p1), .val (.int p2), .val (.int (v7_63 p1 p2 B0)), .val (.int v7_40), .val (.int (v7_12 p1 p2 B0))] [(.int (1 : Int32)), (.int p2), (.int p1), (.ref r0)])) rfl (by rw [hml]; rfl) (argsL := [(.ref r0), (.int p1), (.int p2), (.int (1 : Int32))]) (rest := []) (lenOf pd_0 rfl) rfl (by show 2 * 0 + _ ≤ _; exact Nat.le_of_eq rfl) (hb hby d7_68) (fun _ _ => ⟨rfl, e15, (by decide : 0 + 0 ≤ _), (by decide : 0 + 0 ≤ _)⟩)
  dsimp only [Pt.U, Pt.locs, Pt.cells, Pt.slots] at X25 l25 y25 z25 st25 hQ25
  subst l25 y25 z25
  obtain ⟨rfl, N25q, eh25⟩ := hQ25
  have N25 := Fr.app N15 N25q
  have k26 : own_Go p e below (s₁.setTop (entryFrame m #[(.ref r0), (.int p1), (.int p2)] 6)) (T25.setTop (mkF m 71 #[.val (.ref r0), .val (.int p1), .val (.int p2), .val (.int (v7_63 p1 p2 B0)), .val (.int v7_40), .val (.int (v7_12 p1 p2 B0))] [(.int (f8 p1 p2 (1 : Int32) B0))])) := fun t k => k24 t (st25 t k)
  have k27 : own_Go p e below (s₁.setTop (entryFrame m #[(.ref r0), (.int p1), (.int p2)] 6)) (T25.setTop (mkF m 77 #[.val (.ref r0), .val (.int p1), .val (.int p2), .val (.int (v7_63 p1 p2 B0)), .val (.int v7_40), .val (.int (v7_71 p1 p2 B0))] [(.int (v7_71 p1 p2 B0)), (.int v7_40)])) := by
    intro t k
    refine k26 t ?_
    show Steps p.tables e below (T25.setTop (mkF m 71 #[.val (.ref r0), .val (.int p1), .val (.int p2), .val (.int (v7_63 p1 p2 B0)), .val (.int v7_40), .val (.int (v7_12 p1 p2 B0))] [(.int (f8 p1 p2 (1 : Int32) B0))])) t
    refine XS.istore X25.here hx rfl (hb hby d7_71) rfl (l' := #[.val (.ref r0), .val (.int p1), .val (.int p2), .val (.int (v7_63 p1 p2 B0)), .val (.int v7_40), .val (.int (v7_71 p1 p2 B0))]) rfl ?_
    show Steps p.tables e below (T25.setTop (mkF m 73 #[.val (.ref r0), .val (.int p1), .val (.int p2), .val (.int (v7_63 p1 p2 B0)), .val (.int v7_40), .val (.int (v7_71 p1 p2 B0))] [])) t
    refine XS.iload X25.here hx rfl (hb hby d7_73) rfl ?_
    show Steps p.tables e below (T25.setTop (mkF m 75 #[.val (.ref r0), .val (.int p1), .val (.int p2), .val (.int (v7_63 p1 p2 B0)), .val (.int v7_40), .val (.int (v7_71 p1 p2 B0))] [(.int v7_40)])) t
    refine XS.iload X25.here hx rfl (hb hby d7_75) rfl ?_
    exact k
  obtain ⟨T28, L28, X28, e28, N28, k28⟩ : ∃ (T28 : State) (L28 : List Loc), Stand p l e ({ frames := 1, cells := 0, slots := 0, locals := 15 } : Room) s m #[(.ref r0), (.int p1), (.int p2)] below meth c T28 L28 0 0 ∧ T28.heap = h0 ∧ Fr n0 L28 ∧ own_Go p e below (s₁.setTop (entryFrame m #[(.ref r0), (.int p1), (.int p2)] 6)) (T28.setTop (mkF m 98 #[.val (.ref r0), .val (.int p1), .val (.int p2), .val (.int (v7_63 p1 p2 B0)), .val (.int v7_40), .val (.int (v7_71 p1 p2 B0))] [(.int (m7_98_s0 p1 p2 B0)), (.int v7_40)])) := by
    by_cases hc77_29 : (v7_71 p1 p2 B0) = (0 : Int32)
    · have k30 : own_Go p e below (s₁.setTop (entryFrame m #[(.ref r0), (.int p1), (.int p2)] 6)) (T25.setTop (mkF m 98 #[.val (.ref r0), .val (.int p1), .val (.int p2), .val (.int (v7_63 p1 p2 B0)), .val (.int v7_40), .val (.int (v7_71 p1 p2 B0))] [(.int (0 : Int32)), (.int v7_40)])) := by
        intro t k
        refine k27 t ?_
        show Steps p.tables e below (T25.setTop (mkF m 77 #[.val (.ref r0), .val (.int p1), .val (.int p2), .val (.int (v7_63 p1 p2 B0)), .val (.int v7_40), .val (.int (v7_71 p1 p2 B0))] [(.int (v7_71 p1 p2 B0)), (.int v7_40)])) t
        refine XS.ifYes X25.here hx rfl (pc0 := 77) (pc' := 97) rfl (hb hby d7_77) rfl ((if0 _ _).trans (teq hc77_29).1) (by decide) (by decide) ?_
        show Steps p.tables e below (T25.setTop (mkF m 97 #[.val (.ref r0), .val (.int p1), .val (.int p2), .val (.int (v7_63 p1 p2 B0)), .val (.int v7_40), .val (.int (v7_71 p1 p2 B0))] [(.int v7_40)])) t
        refine XS.iconst X25.here hx rfl (hb hby d7_97) ?_
        exact k
      exact ⟨_, _, X25, eh25, N25, (by rw [show (m7_98_s0 p1 p2 B0) = (0 : Int32) from (by unfold m7_98_s0; rw [if_pos hc77_29])]; exact k30)⟩
    · have k31 : own_Go p e below (s₁.setTop (entryFrame m #[(.ref r0), (.int p1), (.int p2)] 6)) (T25.setTop (mkF m 83 #[.val (.ref r0), .val (.int p1), .val (.int p2), .val (.int (v7_63 p1 p2 B0)), .val (.int v7_40), .val (.int (v7_71 p1 p2 B0))] [(.int (1 : Int32)), (.int p1), (.ref r0), (.int v7_40)])) := by
        intro t k
        refine k27 t ?_
        show Steps p.tables e below (T25.setTop (mkF m 77 #[.val (.ref r0), .val (.int p1), .val (.int p2), .val (.int (v7_63 p1 p2 B0)), .val (.int v7_40), .val (.int (v7_71 p1 p2 B0))] [(.int (v7_71 p1 p2 B0)), (.int v7_40)])) t
        refine XS.ifNo X25.here hx rfl (hb hby d7_77) rfl ((if0 _ _).trans (feq hc77_29).1) ?_
        show Steps p.tables e below (T25.setTop (mkF m 80 #[.val (.ref r0), .val (.int p1), .val (.int p2), .val (.int (v7_63 p1 p2 B0)), .val (.int v7_40), .val (.int (v7_71 p1 p2 B0))] [(.int v7_40)])) t
        refine XS.aloadN X25.here hx rfl (hb hby d7_80) rfl rfl ?_
        show Steps p.tables e below (T25.setTop (mkF m 81 #[.val (.ref r0), .val (.int p1), .val (.int p2), .val (.int (v7_63 p1 p2 B0)), .val (.int v7_40), .val (.int (v7_71 p1 p2 B0))] [(.ref r0), (.int v7_40)])) t
        refine XS.iloadN X25.here hx rfl (hb hby d7_81) rfl ?_
        show Steps p.tables e below (T25.setTop (mkF m 82 #[.val (.ref r0), .val (.int p1), .val (.int p2), .val (.int (v7_63 p1 p2 B0)), .val (.int v7_40), .val (.int (v7_71 p1 p2 B0))] [(.int p1), (.ref r0), (.int v7_40)])) t
        refine XS.iconst X25.here hx rfl (hb hby d7_82) ?_
        exact k
      obtain ⟨_, _, ⟨T32, L32, kk32, n32⟩, -, X32, ⟨Lc32, hQ32, l32, y32, z32⟩, st32⟩ := Jvm.LawKit.callS X25 hx (y := (⟨"com/example/dosewire/dosewire/server/net/EndEndsInPinLaw", "emptyLine", "([BII)Z"⟩ : MethodName)) hown (mvT hZ (hw _ (List.mem_of_getElem? (i := 39) rfl))) (mvT hZ (hw _ (List.mem_of_getElem? (i := 40) rfl))) (mvT hZ (hw _ (List.mem_of_getElem? (i := 3) rfl))) (mvT hZ (hw _ (List.mem_of_getElem? (i := 41) rfl))) (by decide) (backOf (W := 1) (rm9 l Z a0 hw [] r0 p1 (1 : Int32) B0 h0 n0 Z0 V_r0 (own_lf hlo (by decide) (by decide) hc77_29)) hZ (hw _ (List.mem_of_getElem? (i := 41) rfl)) (hw _ (List.mem_of_getElem? (i := 3) rfl)) (by decide) (by decide)) (g := (mkF m 83 #[.val (.ref r0), .val (.int p1), .val (.int p2), .val (.int (v7_63 p1 p2 B0)), .val (.int v7_40), .val (.int (v7_71 p1 p2 B0))] [(.int (1 : Int32)), (.int p1), (.ref r0), (.int v7_40)])) rfl (by rw [hml]; rfl) (argsL := [(.ref r0), (.int p1), (.int (1 : Int32))]) (rest := [(.int v7_40)]) (lenOf pd_1 rfl) rfl (by show 2 * 0 + _ ≤ _; exact Nat.le_of_eq rfl) (hb hby d7_83) (fun _ _ => ⟨rfl, eh25, (by decide : 0 + 0 ≤ _), (by decide : 0 + 0 ≤ _)⟩)
      dsimp only [Pt.U, Pt.locs, Pt.cells, Pt.slots] at X32 l32 y32 z32 st32 hQ32
      subst l32 y32 z32
      obtain ⟨rfl, N32q, eh32⟩ := hQ32
      have N32 := Fr.app N25 N32q
      have k33 : own_Go p e below (s₁.setTop (entryFrame m #[(.ref r0), (.int p1), (.int p2)] 6)) (T32.setTop (mkF m 86 #[.val (.ref r0), .val (.int p1), .val (.int p2), .val (.int (v7_63 p1 p2 B0)), .val (.int v7_40), .val (.int (v7_71 p1 p2 B0))] [(.int (f9 p1 (1 : Int32) B0)), (.int v7_40)])) := fun t k => k31 t (st32 t k)
      by_cases hc86_34 : (f9 p1 (1 : Int32) B0) = (0 : Int32)
      · have k35 : own_Go p e below (s₁.setTop (entryFrame m #[(.ref r0), (.int p1), (.int p2)] 6)) (T32.setTop (mkF m 98 #[.val (.ref r0), .val (.int p1), .val (.int p2), .val (.int (v7_63 p1 p2 B0)), .val (.int v7_40), .val (.int (v7_71 p1 p2 B0))] [(.int (0 : Int32)), (.int v7_40)])) := by
          intro t k
          refine k33 t ?_
          show Steps p.tables e below (T32.setTop (mkF m 86 #[.val (.ref r0), .val (.int p1), .val (.int p2), .val (.int (v7_63 p1 p2 B0)), .val (.int v7_40), .val (.int (v7_71 p1 p2 B0))] [(.int (f9 p1 (1 : Int32) B0)), (.int v7_40)])) t
          refine XS.ifYes X32.here hx rfl (pc0 := 86) (pc' := 97) rfl (hb hby d7_86) rfl ((if0 _ _).trans (teq hc86_34).1) (by decide) (by decide) ?_
          show Steps p.tables e below (T32.setTop (mkF m 97 #[.val (.ref r0), .val (.int p1), .val (.int p2), .val (.int (v7_63 p1 p2 B0)), .val (.int v7_40), .val (.int (v7_71 p1 p2 B0))] [(.int v7_40)])) t
          refine XS.iconst X32.here hx rfl (hb hby d7_97) ?_
          exact k
        exact ⟨_, _, X32, eh32, N32, (by rw [show (m7_98_s0 p1 p2 B0) = (0 : Int32) from (by unfold m7_98_s0; rw [if_neg hc77_29, if_pos hc86_34])]; exact k35)⟩
      · have k36 : own_Go p e below (s₁.setTop (entryFrame m #[(.ref r0), (.int p1), (.int p2)] 6)) (T32.setTop (mkF m 90 #[.val (.ref r0), .val (.int p1), .val (.int p2), .val (.int (v7_63 p1 p2 B0)), .val (.int v7_40), .val (.int (v7_71 p1 p2 B0))] [(.int (v7_63 p1 p2 B0)), (.int v7_40)])) := by
          intro t k
          refine k33 t ?_
          show Steps p.tables e below (T32.setTop (mkF m 86 #[.val (.ref r0), .val (.int p1), .val (.int p2), .val (.int (v7_63 p1 p2 B0)), .val (.int v7_40), .val (.int (v7_71 p1 p2 B0))] [(.int (f9 p1 (1 : Int32) B0)), (.int v7_40)])) t
          refine XS.ifNo X32.here hx rfl (hb hby d7_86) rfl ((if0 _ _).trans (feq hc86_34).1) ?_
          show Steps p.tables e below (T32.setTop (mkF m 89 #[.val (.ref r0), .val (.int p1), .val (.int p2), .val (.int (v7_63 p1 p2 B0)), .val (.int v7_40), .val (.int (v7_71 p1 p2 B0))] [(.int v7_40)])) t
          refine XS.iloadN X32.here hx rfl (hb hby d7_89) rfl ?_
          exact k
        by_cases hc90_37 : (v7_63 p1 p2 B0) = (0 : Int32)
        · have k38 : own_Go p e below (s₁.setTop (entryFrame m #[(.ref r0), (.int p1), (.int p2)] 6)) (T32.setTop (mkF m 98 #[.val (.ref r0), .val (.int p1), .val (.int p2), .val (.int (v7_63 p1 p2 B0)), .val (.int v7_40), .val (.int (v7_71 p1 p2 B0))] [(.int (0 : Int32)), (.int v7_40)])) := by
            intro t k
            refine k36 t ?_
            show Steps p.tables e below (T32.setTop (mkF m 90 #[.val (.ref r0), .val (.int p1), .val (.int p2), .val (.int (v7_63 p1 p2 B0)), .val (.int v7_40), .val (.int (v7_71 p1 p2 B0))] [(.int (v7_63 p1 p2 B0)), (.int v7_40)])) t
            refine XS.ifYes X32.here hx rfl (pc0 := 90) (pc' := 97) rfl (hb hby d7_90) rfl ((if0 _ _).trans (teq hc90_37).1) (by decide) (by decide) ?_
            show Steps p.tables e below (T32.setTop (mkF m 97 #[.val (.ref r0), .val (.int p1), .val (.int p2), .val (.int (v7_63 p1 p2 B0)), .val (.int v7_40), .val (.int (v7_71 p1 p2 B0))] [(.int v7_40)])) t
            refine XS.iconst X32.here hx rfl (hb hby d7_97) ?_
            exact k
          exact ⟨_, _, X32, eh32, N32, (by rw [show (m7_98_s0 p1 p2 B0) = (0 : Int32) from (by unfold m7_98_s0; rw [if_neg hc77_29, if_neg hc86_34, if_pos hc90_37])]; exact k38)⟩
        · have k39 : own_Go p e below (s₁.setTop (entryFrame m #[(.ref r0), (.int p1), (.int p2)] 6)) (T32.setTop (mkF m 98 #[.val (.ref r0), .val (.int p1), .val (.int p2), .val (.int (v7_63 p1 p2 B0)), .val (.int v7_40), .val (.int (v7_71 p1 p2 B0))] [(.int (1 : Int32)), (.int v7_40)])) := by
            intro t k
            refine k36 t ?_
            show Steps p.tables e below (T32.setTop (mkF m 90 #[.val (.ref r0), .val (.int p1), .val (.int p2), .val (.int (v7_63 p1 p2 B0)), .val (.int v7_40), .val (.int (v7_71 p1 p2 B0))] [(.int (v7_63 p1 p2 B0)), (.int v7_40)])) t
            refine XS.ifNo X32.here hx rfl (hb hby d7_90) rfl ((if0 _ _).trans (feq hc90_37).1) ?_
            show Steps p.tables e below (T32.setTop (mkF m 93 #[.val (.ref r0), .val (.int p1), .val (.int p2), .val (.int (v7_63 p1 p2 B0)), .val (.int v7_40), .val (.int (v7_71 p1 p2 B0))] [(.int v7_40)])) t
            refine XS.iconst X32.here hx rfl (hb hby d7_93) ?_
            show Steps p.tables e below (T32.setTop (mkF m 94 #[.val (.ref r0), .val (.int p1), .val (.int p2), .val (.int (v7_63 p1 p2 B0)), .val (.int v7_40), .val (.int (v7_71 p1 p2 B0))] [(.int (1 : Int32)), (.int v7_40)])) t
            refine XS.goto X32.here hx rfl (pc0 := 94) (pc' := 98) rfl (hb hby d7_94) (by decide) (by decide) ?_
            exact k
          exact ⟨_, _, X32, eh32, N32, (by rw [show (m7_98_s0 p1 p2 B0) = (1 : Int32) from (by unfold m7_98_s0; rw [if_neg hc77_29, if_neg hc86_34, if_neg hc90_37])]; exact k39)⟩
  have k40 : own_Go p e below (s₁.setTop (entryFrame m #[(.ref r0), (.int p1), (.int p2)] 6)) (T28.setTop (mkF m 104 #[.val (.ref r0), .val (.int p1), .val (.int p2), .val (.int (v7_63 p1 p2 B0)), .val (.int (v7_99 p1 p2 B0)), .val (.int (v7_71 p1 p2 B0))] [(.int (v7_71 p1 p2 B0)), (.int (v7_63 p1 p2 B0))])) := by
    intro t k
    refine k28 t ?_
    show Steps p.tables e below (T28.setTop (mkF m 98 #[.val (.ref r0), .val (.int p1), .val (.int p2), .val (.int (v7_63 p1 p2 B0)), .val (.int v7_40), .val (.int (v7_71 p1 p2 B0))] [(.int (m7_98_s0 p1 p2 B0)), (.int v7_40)])) t
    refine XS.ior X28.here hx rfl (hb hby d7_98) rfl ?_
    show Steps p.tables e below (T28.setTop (mkF m 99 #[.val (.ref r0), .val (.int p1), .val (.int p2), .val (.int (v7_63 p1 p2 B0)), .val (.int v7_40), .val (.int (v7_71 p1 p2 B0))] [(.int (v7_40 ||| (m7_98_s0 p1 p2 B0)))])) t
    refine XS.istore X28.here hx rfl (hb hby d7_99) rfl (l' := #[.val (.ref r0), .val (.int p1), .val (.int p2), .val (.int (v7_63 p1 p2 B0)), .val (.int (v7_99 p1 p2 B0)), .val (.int (v7_71 p1 p2 B0))]) rfl ?_
    show Steps p.tables e below (T28.setTop (mkF m 101 #[.val (.ref r0), .val (.int p1), .val (.int p2), .val (.int (v7_63 p1 p2 B0)), .val (.int (v7_99 p1 p2 B0)), .val (.int (v7_71 p1 p2 B0))] [])) t
    refine XS.iloadN X28.here hx rfl (hb hby d7_101) rfl ?_
    show Steps p.tables e below (T28.setTop (mkF m 102 #[.val (.ref r0), .val (.int p1), .val (.int p2), .val (.int (v7_63 p1 p2 B0)), .val (.int (v7_99 p1 p2 B0)), .val (.int (v7_71 p1 p2 B0))] [(.int (v7_63 p1 p2 B0))])) t
    refine XS.iload X28.here hx rfl (hb hby d7_102) rfl ?_
    exact k
  obtain ⟨T41, L41, X41, e41, N41, k41⟩ : ∃ (T41 : State) (L41 : List Loc), Stand p l e ({ frames := 1, cells := 0, slots := 0, locals := 15 } : Room) s m #[(.ref r0), (.int p1), (.int p2)] below meth c T41 L41 0 0 ∧ T41.heap = h0 ∧ Fr n0 L41 ∧ own_Go p e below (s₁.setTop (entryFrame m #[(.ref r0), (.int p1), (.int p2)] 6)) (T41.setTop (mkF m 121 #[.val (.ref r0), .val (.int p1), .val (.int p2), .val (.int (v7_63 p1 p2 B0)), .val (.int (v7_99 p1 p2 B0)), .val (.int (v7_71 p1 p2 B0))] [(.int (m7_121_s0 p1 p2 B0)), (.int (v7_63 p1 p2 B0))])) := by
    by_cases hc104_42 : (v7_71 p1 p2 B0) = (0 : Int32)
    · have k43 : own_Go p e below (s₁.setTop (entryFrame m #[(.ref r0), (.int p1), (.int p2)] 6)) (T28.setTop (mkF m 121 #[.val (.ref r0), .val (.int p1), .val (.int p2), .val (.int (v7_63 p1 p2 B0)), .val (.int (v7_99 p1 p2 B0)), .val (.int (v7_71 p1 p2 B0))] [(.int (0 : Int32)), (.int (v7_63 p1 p2 B0))])) := by
        intro t k
        refine k40 t ?_
        show Steps p.tables e below (T28.setTop (mkF m 104 #[.val (.ref r0), .val (.int p1), .val (.int p2), .val (.int (v7_63 p1 p2 B0)), .val (.int (v7_99 p1 p2 B0)), .val (.int (v7_71 p1 p2 B0))] [(.int (v7_71 p1 p2 B0)), (.int (v7_63 p1 p2 B0))])) t
        refine XS.ifYes X28.here hx rfl (pc0 := 104) (pc' := 120) rfl (hb hby d7_104) rfl ((if0 _ _).trans (teq hc104_42).1) (by decide) (by decide) ?_
        show Steps p.tables e below (T28.setTop (mkF m 120 #[.val (.ref r0), .val (.int p1), .val (.int p2), .val (.int (v7_63 p1 p2 B0)), .val (.int (v7_99 p1 p2 B0)), .val (.int (v7_71 p1 p2 B0))] [(.int (v7_63 p1 p2 B0))])) t
        refine XS.iconst X28.here hx rfl (hb hby d7_120) ?_
        exact k
      exact ⟨_, _, X28, e28, N28, (by rw [show (m7_121_s0 p1 p2 B0) = (0 : Int32) from (by unfold m7_121_s0; rw [if_pos hc104_42])]; exact k43)⟩
    · have k44 : own_Go p e below (s₁.setTop (entryFrame m #[(.ref r0), (.int p1), (.int p2)] 6)) (T28.setTop (mkF m 110 #[.val (.ref r0), .val (.int p1), .val (.int p2), .val (.int (v7_63 p1 p2 B0)), .val (.int (v7_99 p1 p2 B0)), .val (.int (v7_71 p1 p2 B0))] [(.int (1 : Int32)), (.int p1), (.ref r0), (.int (v7_63 p1 p2 B0))])) := by
        intro t k
        refine k40 t ?_
        show Steps p.tables e below (T28.setTop (mkF m 104 #[.val (.ref r0), .val (.int p1), .val (.int p2), .val (.int (v7_63 p1 p2 B0)), .val (.int (v7_99 p1 p2 B0)), .val (.int (v7_71 p1 p2 B0))] [(.int (v7_71 p1 p2 B0)), (.int (v7_63 p1 p2 B0))])) t
        refine XS.ifNo X28.here hx rfl (hb hby d7_104) rfl ((if0 _ _).trans (feq hc104_42).1) ?_
        show Steps p.tables e below (T28.setTop (mkF m 107 #[.val (.ref r0), .val (.int p1), .val (.int p2), .val (.int (v7_63 p1 p2 B0)), .val (.int (v7_99 p1 p2 B0)), .val (.int (v7_71 p1 p2 B0))] [(.int (v7_63 p1 p2 B0))])) t
        refine XS.aloadN X28.here hx rfl (hb hby d7_107) rfl rfl ?_
        show Steps p.tables e below (T28.setTop (mkF m 108 #[.val (.ref r0), .val (.int p1), .val (.int p2), .val (.int (v7_63 p1 p2 B0)), .val (.int (v7_99 p1 p2 B0)), .val (.int (v7_71 p1 p2 B0))] [(.ref r0), (.int (v7_63 p1 p2 B0))])) t
        refine XS.iloadN X28.here hx rfl (hb hby d7_108) rfl ?_
        show Steps p.tables e below (T28.setTop (mkF m 109 #[.val (.ref r0), .val (.int p1), .val (.int p2), .val (.int (v7_63 p1 p2 B0)), .val (.int (v7_99 p1 p2 B0)), .val (.int (v7_71 p1 p2 B0))] [(.int p1), (.ref r0), (.int (v7_63 p1 p2 B0))])) t
        refine XS.iconst X28.here hx rfl (hb hby d7_109) ?_
        exact k
      obtain ⟨_, _, ⟨T45, L45, kk45, n45⟩, -, X45, ⟨Lc45, hQ45, l45, y45, z45⟩, st45⟩ := Jvm.LawKit.callS X28 hx (y := (⟨"com/example/dosewire/dosewire/server/net/EndEndsInPinLaw", "emptyLine", "([BII)Z"⟩ : MethodName)) hown (mvT hZ (hw _ (List.mem_of_getElem? (i := 39) rfl))) (mvT hZ (hw _ (List.mem_of_getElem? (i := 40) rfl))) (mvT hZ (hw _ (List.mem_of_getElem? (i := 3) rfl))) (mvT hZ (hw _ (List.mem_of_getElem? (i := 41) rfl))) (by decide) (backOf (W := 1) (rm9 l Z a0 hw [] r0 p1 (1 : Int32) B0 h0 n0 Z0 V_r0 (own_lf hlo (by decide) (by decide) hc104_42)) hZ (hw _ (List.mem_of_getElem? (i := 41) rfl)) (hw _ (List.mem_of_getElem? (i := 3) rfl)) (by decide) (by decide)) (g := (mkF m 110 #[.val (.ref r0), .val (.int p1), .val (.int p2), .val (.int (v7_63 p1 p2 B0)), .val (.int (v7_99 p1 p2 B0)), .val (.int (v7_71 p1 p2 B0))] [(.int (1 : Int32)), (.int p1), (.ref r0), (.int (v7_63 p1 p2 B0))])) rfl (by rw [hml]; rfl) (argsL := [(.ref r0), (.int p1), (.int (1 : Int32))]) (rest := [(.int (v7_63 p1 p2 B0))]) (lenOf pd_1 rfl) rfl (by show 2 * 0 + _ ≤ _; exact Nat.le_of_eq rfl) (hb hby d7_110) (fun _ _ => ⟨rfl, e28, (by decide : 0 + 0 ≤ _), (by decide : 0 + 0 ≤ _)⟩)
      dsimp only [Pt.U, Pt.locs, Pt.cells, Pt.slots] at X45 l45 y45 z45 st45 hQ45
      subst l45 y45 z45
      obtain ⟨rfl, N45q, eh45⟩ := hQ45
      have N45 := Fr.app N28 N45q
      have k46 : own_Go p e below (s₁.setTop (entryFrame m #[(.ref r0), (.int p1), (.int p2)] 6)) (T45.setTop (mkF m 113 #[.val (.ref r0), .val (.int p1), .val (.int p2), .val (.int (v7_63 p1 p2 B0)), .val (.int (v7_99 p1 p2 B0)), .val (.int (v7_71 p1 p2 B0))] [(.int (f9 p1 (1 : Int32) B0)), (.int (v7_63 p1 p2 B0))])) := fun t k => k44 t (st45 t k)
      by_cases hc113_47 : (f9 p1 (1 : Int32) B0) = (0 : Int32)
      · have k48 : own_Go p e below (s₁.setTop (entryFrame m #[(.ref r0), (.int p1), (.int p2)] 6)) (T45.setTop (mkF m 121 #[.val (.ref r0), .val (.int p1), .val (.int p2), .val (.int (v7_63 p1 p2 B0)), .val (.int (v7_99 p1 p2 B0)), .val (.int (v7_71 p1 p2 B0))] [(.int (1 : Int32)), (.int (v7_63 p1 p2 B0))])) := by
          intro t k
          refine k46 t ?_
          show Steps p.tables e below (T45.setTop (mkF m 113 #[.val (.ref r0), .val (.int p1), .val (.int p2), .val (.int (v7_63 p1 p2 B0)), .val (.int (v7_99 p1 p2 B0)), .val (.int (v7_71 p1 p2 B0))] [(.int (f9 p1 (1 : Int32) B0)), (.int (v7_63 p1 p2 B0))])) t
          refine XS.ifNo X45.here hx rfl (hb hby d7_113) rfl ((if0 _ _).trans (teq hc113_47).2) ?_
          show Steps p.tables e below (T45.setTop (mkF m 116 #[.val (.ref r0), .val (.int p1), .val (.int p2), .val (.int (v7_63 p1 p2 B0)), .val (.int (v7_99 p1 p2 B0)), .val (.int (v7_71 p1 p2 B0))] [(.int (v7_63 p1 p2 B0))])) t
          refine XS.iconst X45.here hx rfl (hb hby d7_116) ?_
          show Steps p.tables e below (T45.setTop (mkF m 117 #[.val (.ref r0), .val (.int p1), .val (.int p2), .val (.int (v7_63 p1 p2 B0)), .val (.int (v7_99 p1 p2 B0)), .val (.int (v7_71 p1 p2 B0))] [(.int (1 : Int32)), (.int (v7_63 p1 p2 B0))])) t
          refine XS.goto X45.here hx rfl (pc0 := 117) (pc' := 121) rfl (hb hby d7_117) (by decide) (by decide) ?_
          exact k
        exact ⟨_, _, X45, eh45, N45, (by rw [show (m7_121_s0 p1 p2 B0) = (1 : Int32) from (by unfold m7_121_s0; rw [if_neg hc104_42, if_pos hc113_47])]; exact k48)⟩
      · have k49 : own_Go p e below (s₁.setTop (entryFrame m #[(.ref r0), (.int p1), (.int p2)] 6)) (T45.setTop (mkF m 121 #[.val (.ref r0), .val (.int p1), .val (.int p2), .val (.int (v7_63 p1 p2 B0)), .val (.int (v7_99 p1 p2 B0)), .val (.int (v7_71 p1 p2 B0))] [(.int (0 : Int32)), (.int (v7_63 p1 p2 B0))])) := by
          intro t k
          refine k46 t ?_
          show Steps p.tables e below (T45.setTop (mkF m 113 #[.val (.ref r0), .val (.int p1), .val (.int p2), .val (.int (v7_63 p1 p2 B0)), .val (.int (v7_99 p1 p2 B0)), .val (.int (v7_71 p1 p2 B0))] [(.int (f9 p1 (1 : Int32) B0)), (.int (v7_63 p1 p2 B0))])) t
          refine XS.ifYes X45.here hx rfl (pc0 := 113) (pc' := 120) rfl (hb hby d7_113) rfl ((if0 _ _).trans (feq hc113_47).2) (by decide) (by decide) ?_
          show Steps p.tables e below (T45.setTop (mkF m 120 #[.val (.ref r0), .val (.int p1), .val (.int p2), .val (.int (v7_63 p1 p2 B0)), .val (.int (v7_99 p1 p2 B0)), .val (.int (v7_71 p1 p2 B0))] [(.int (v7_63 p1 p2 B0))])) t
          refine XS.iconst X45.here hx rfl (hb hby d7_120) ?_
          exact k
        exact ⟨_, _, X45, eh45, N45, (by rw [show (m7_121_s0 p1 p2 B0) = (0 : Int32) from (by unfold m7_121_s0; rw [if_neg hc104_42, if_neg hc113_47])]; exact k49)⟩
  have k50 : own_Go p e below (s₁.setTop (entryFrame m #[(.ref r0), (.int p1), (.int p2)] 6)) (T41.setTop (mkF m 127 #[.val (.ref r0), .val (.int p1), .val (.int p2), .val (.int (v7_122 p1 p2 B0)), .val (.int (v7_99 p1 p2 B0)), .val (.int (v7_71 p1 p2 B0))] [(.int (2 : Int32)), (.int p2), (.int p1), (.ref r0)])) := by
    intro t k
    refine k41 t ?_
    show Steps p.tables e below (T41.setTop (mkF m 121 #[.val (.ref r0), .val (.int p1), .val (.int p2), .val (.int (v7_63 p1 p2 B0)), .val (.int (v7_99 p1 p2 B0)), .val (.int (v7_71 p1 p2 B0))] [(.int (m7_121_s0 p1 p2 B0)), (.int (v7_63 p1 p2 B0))])) t
    refine XS.ior X41.here hx rfl (hb hby d7_121) rfl ?_
    show Steps p.tables e below (T41.setTop (mkF m 122 #[.val (.ref r0), .val (.int p1), .val (.int p2), .val (.int (v7_63 p1 p2 B0)), .val (.int (v7_99 p1 p2 B0)), .val (.int (v7_71 p1 p2 B0))] [(.int ((v7_63 p1 p2 B0) ||| (m7_121_s0 p1 p2 B0)))])) t
    refine XS.istoreN X41.here hx rfl (hb hby d7_122) rfl (l' := #[.val (.ref r0), .val (.int p1), .val (.int p2), .val (.int (v7_122 p1 p2 B0)), .val (.int (v7_99 p1 p2 B0)), .val (.int (v7_71 p1 p2 B0))]) rfl ?_
    show Steps p.tables e below (T41.setTop (mkF m 123 #[.val (.ref r0), .val (.int p1), .val (.int p2), .val (.int (v7_122 p1 p2 B0)), .val (.int (v7_99 p1 p2 B0)), .val (.int (v7_71 p1 p2 B0))] [])) t
    refine XS.aloadN X41.here hx rfl (hb hby d7_123) rfl rfl ?_
    show Steps p.tables e below (T41.setTop (mkF m 124 #[.val (.ref r0), .val (.int p1), .val (.int p2), .val (.int (v7_122 p1 p2 B0)), .val (.int (v7_99 p1 p2 B0)), .val (.int (v7_71 p1 p2 B0))] [(.ref r0)])) t
    refine XS.iloadN X41.here hx rfl (hb hby d7_124) rfl ?_
    show Steps p.tables e below (T41.setTop (mkF m 125 #[.val (.ref r0), .val (.int p1), .val (.int p2), .val (.int (v7_122 p1 p2 B0)), .val (.int (v7_99 p1 p2 B0)), .val (.int (v7_71 p1 p2 B0))] [(.int p1), (.ref r0)])) t
    refine XS.iloadN X41.here hx rfl (hb hby d7_125) rfl ?_
    show Steps p.tables e below (T41.setTop (mkF m 126 #[.val (.ref r0), .val (.int p1), .val (.int p2), .val (.int (v7_122 p1 p2 B0)), .val (.int (v7_99 p1 p2 B0)), .val (.int (v7_71 p1 p2 B0))] [(.int p2), (.int p1), (.ref r0)])) t
    refine XS.iconst X41.here hx rfl (hb hby d7_126) ?_
    exact k
  obtain ⟨_, _, ⟨T51, L51, kk51, n51⟩, -, X51, ⟨Lc51, hQ51, l51, y51, z51⟩, st51⟩ := Jvm.LawKit.callS X41 hx (y := (⟨"com/example/dosewire/dosewire/server/net/EndEndsInPinLaw", "lfAt", "([BIII)Z"⟩ : MethodName)) hown (mvT hZ (hw _ (List.mem_of_getElem? (i := 36) rfl))) (mvT hZ (hw _ (List.mem_of_getElem? (i := 37) rfl))) (mvT hZ (hw _ (List.mem_of_getElem? (i := 3) rfl))) (mvT hZ (hw _ (List.mem_of_getElem? (i := 38) rfl))) (by decide) (backOf (W := 0) (rm8 l Z a0 hw [] r0 p1 p2 (2 : Int32) B0 h0 n0 Z0 V_r0 ⟨by decide, by decide⟩) hZ (hw _ (List.mem_of_getElem? (i := 38) rfl)) (hw _ (List.mem_of_getElem? (i := 3) rfl)) (by decide) (by decide)) (g := (mkF m 127 #[.val (.ref r0), .val (.int p1), .val (.int p2), .val (.int (v7_122 p1 p2 B0)), .val (.int (v7_99 p1 p2 B0)), .val (.int (v7_71 p1 p2 B0))] [(.int (2 : Int32)), (.int p2), (.int p1), (.ref r0)])) rfl (by rw [hml]; rfl) (argsL := [(.ref r0), (.int p1), (.int p2), (.int (2 : Int32))]) (rest := []) (lenOf pd_0 rfl) rfl (by show 2 * 0 + _ ≤ _; exact Nat.le_of_eq rfl) (hb hby d7_127) (fun _ _ => ⟨rfl, e41, (by decide : 0 + 0 ≤ _), (by decide : 0 + 0 ≤ _)⟩)
  dsimp only [Pt.U, Pt.locs, Pt.cells, Pt.slots] at X51 l51 y51 z51 st51 hQ51
  subst l51 y51 z51
  obtain ⟨rfl, N51q, eh51⟩ := hQ51
  have N51 := Fr.app N41 N51q
  have k52 : own_Go p e below (s₁.setTop (entryFrame m #[(.ref r0), (.int p1), (.int p2)] 6)) (T51.setTop (mkF m 130 #[.val (.ref r0), .val (.int p1), .val (.int p2), .val (.int (v7_122 p1 p2 B0)), .val (.int (v7_99 p1 p2 B0)), .val (.int (v7_71 p1 p2 B0))] [(.int (f8 p1 p2 (2 : Int32) B0))])) := fun t k => k50 t (st51 t k)
  have k53 : own_Go p e below (s₁.setTop (entryFrame m #[(.ref r0), (.int p1), (.int p2)] 6)) (T51.setTop (mkF m 136 #[.val (.ref r0), .val (.int p1), .val (.int p2), .val (.int (v7_122 p1 p2 B0)), .val (.int (v7_99 p1 p2 B0)), .val (.int (v7_130 p1 p2 B0))] [(.int (v7_130 p1 p2 B0)), (.int (v7_99 p1 p2 B0))])) := by
    intro t k
    refine k52 t ?_
    show Steps p.tables e below (T51.setTop (mkF m 130 #[.val (.ref r0), .val (.int p1), .val (.int p2), .val (.int (v7_122 p1 p2 B0)), .val (.int (v7_99 p1 p2 B0)), .val (.int (v7_71 p1 p2 B0))] [(.int (f8 p1 p2 (2 : Int32) B0))])) t
    refine XS.istore X51.here hx rfl (hb hby d7_130) rfl (l' := #[.val (.ref r0), .val (.int p1), .val (.int p2), .val (.int (v7_122 p1 p2 B0)), .val (.int (v7_99 p1 p2 B0)), .val (.int (v7_130 p1 p2 B0))]) rfl ?_
    show Steps p.tables e below (T51.setTop (mkF m 132 #[.val (.ref r0), .val (.int p1), .val (.int p2), .val (.int (v7_122 p1 p2 B0)), .val (.int (v7_99 p1 p2 B0)), .val (.int (v7_130 p1 p2 B0))] [])) t
    refine XS.iload X51.here hx rfl (hb hby d7_132) rfl ?_
    show Steps p.tables e below (T51.setTop (mkF m 134 #[.val (.ref r0), .val (.int p1), .val (.int p2), .val (.int (v7_122 p1 p2 B0)), .val (.int (v7_99 p1 p2 B0)), .val (.int (v7_130 p1 p2 B0))] [(.int (v7_99 p1 p2 B0))])) t
    refine XS.iload X51.here hx rfl (hb hby d7_134) rfl ?_
    exact k
  obtain ⟨T54, L54, X54, e54, N54, k54⟩ : ∃ (T54 : State) (L54 : List Loc), Stand p l e ({ frames := 1, cells := 0, slots := 0, locals := 15 } : Room) s m #[(.ref r0), (.int p1), (.int p2)] below meth c T54 L54 0 0 ∧ T54.heap = h0 ∧ Fr n0 L54 ∧ own_Go p e below (s₁.setTop (entryFrame m #[(.ref r0), (.int p1), (.int p2)] 6)) (T54.setTop (mkF m 157 #[.val (.ref r0), .val (.int p1), .val (.int p2), .val (.int (v7_122 p1 p2 B0)), .val (.int (v7_99 p1 p2 B0)), .val (.int (v7_130 p1 p2 B0))] [(.int (m7_157_s0 p1 p2 B0)), (.int (v7_99 p1 p2 B0))])) := by
    by_cases hc136_55 : (v7_130 p1 p2 B0) = (0 : Int32)
    · have k56 : own_Go p e below (s₁.setTop (entryFrame m #[(.ref r0), (.int p1), (.int p2)] 6)) (T51.setTop (mkF m 157 #[.val (.ref r0), .val (.int p1), .val (.int p2), .val (.int (v7_122 p1 p2 B0)), .val (.int (v7_99 p1 p2 B0)), .val (.int (v7_130 p1 p2 B0))] [(.int (0 : Int32)), (.int (v7_99 p1 p2 B0))])) := by
        intro t k
        refine k53 t ?_
        show Steps p.tables e below (T51.setTop (mkF m 136 #[.val (.ref r0), .val (.int p1), .val (.int p2), .val (.int (v7_122 p1 p2 B0)), .val (.int (v7_99 p1 p2 B0)), .val (.int (v7_130 p1 p2 B0))] [(.int (v7_130 p1 p2 B0)), (.int (v7_99 p1 p2 B0))])) t
        refine XS.ifYes X51.here hx rfl (pc0 := 136) (pc' := 156) rfl (hb hby d7_136) rfl ((if0 _ _).trans (teq hc136_55).1) (by decide) (by decide) ?_
        show Steps p.tables e below (T51.setTop (mkF m 156 #[.val (.ref r0), .val (.int p1), .val (.int p2), .val (.int (v7_122 p1 p2 B0)), .val (.int (v7_99 p1 p2 B0)), .val (.int (v7_130 p1 p2 B0))] [(.int (v7_99 p1 p2 B0))])) t
        refine XS.iconst X51.here hx rfl (hb hby d7_156) ?_
        exact k
      exact ⟨_, _, X51, eh51, N51, (by rw [show (m7_157_s0 p1 p2 B0) = (0 : Int32) from (by unfold m7_157_s0; rw [if_pos hc136_55])]; exact k56)⟩
    · have k57 : own_Go p e below (s₁.setTop (entryFrame m #[(.ref r0), (.int p1), (.int p2)] 6)) (T51.setTop (mkF m 142 #[.val (.ref r0), .val (.int p1), .val (.int p2), .val (.int (v7_122 p1 p2 B0)), .val (.int (v7_99 p1 p2 B0)), .val (.int (v7_130 p1 p2 B0))] [(.int (2 : Int32)), (.int p1), (.ref r0), (.int (v7_99 p1 p2 B0))])) := by
        intro t k
        refine k53 t ?_
        show Steps p.tables e below (T51.setTop (mkF m 136 #[.val (.ref r0), .val (.int p1), .val (.int p2), .val (.int (v7_122 p1 p2 B0)), .val (.int (v7_99 p1 p2 B0)), .val (.int (v7_130 p1 p2 B0))] [(.int (v7_130 p1 p2 B0)), (.int (v7_99 p1 p2 B0))])) t
        refine XS.ifNo X51.here hx rfl (hb hby d7_136) rfl ((if0 _ _).trans (feq hc136_55).1) ?_
        show Steps p.tables e below (T51.setTop (mkF m 139 #[.val (.ref r0), .val (.int p1), .val (.int p2), .val (.int (v7_122 p1 p2 B0)), .val (.int (v7_99 p1 p2 B0)), .val (.int (v7_130 p1 p2 B0))] [(.int (v7_99 p1 p2 B0))])) t
        refine XS.aloadN X51.here hx rfl (hb hby d7_139) rfl rfl ?_
        show Steps p.tables e below (T51.setTop (mkF m 140 #[.val (.ref r0), .val (.int p1), .val (.int p2), .val (.int (v7_122 p1 p2 B0)), .val (.int (v7_99 p1 p2 B0)), .val (.int (v7_130 p1 p2 B0))] [(.ref r0), (.int (v7_99 p1 p2 B0))])) t
        refine XS.iloadN X51.here hx rfl (hb hby d7_140) rfl ?_
        show Steps p.tables e below (T51.setTop (mkF m 141 #[.val (.ref r0), .val (.int p1), .val (.int p2), .val (.int (v7_122 p1 p2 B0)), .val (.int (v7_99 p1 p2 B0)), .val (.int (v7_130 p1 p2 B0))] [(.int p1), (.ref r0), (.int (v7_99 p1 p2 B0))])) t
        refine XS.iconst X51.here hx rfl (hb hby d7_141) ?_
        exact k
      obtain ⟨_, _, ⟨T58, L58, kk58, n58⟩, -, X58, ⟨Lc58, hQ58, l58, y58, z58⟩, st58⟩ := Jvm.LawKit.callS X51 hx (y := (⟨"com/example/dosewire/dosewire/server/net/EndEndsInPinLaw", "emptyLine", "([BII)Z"⟩ : MethodName)) hown (mvT hZ (hw _ (List.mem_of_getElem? (i := 39) rfl))) (mvT hZ (hw _ (List.mem_of_getElem? (i := 40) rfl))) (mvT hZ (hw _ (List.mem_of_getElem? (i := 3) rfl))) (mvT hZ (hw _ (List.mem_of_getElem? (i := 41) rfl))) (by decide) (backOf (W := 1) (rm9 l Z a0 hw [] r0 p1 (2 : Int32) B0 h0 n0 Z0 V_r0 (own_lf hlo (by decide) (by decide) hc136_55)) hZ (hw _ (List.mem_of_getElem? (i := 41) rfl)) (hw _ (List.mem_of_getElem? (i := 3) rfl)) (by decide) (by decide)) (g := (mkF m 142 #[.val (.ref r0), .val (.int p1), .val (.int p2), .val (.int (v7_122 p1 p2 B0)), .val (.int (v7_99 p1 p2 B0)), .val (.int (v7_130 p1 p2 B0))] [(.int (2 : Int32)), (.int p1), (.ref r0), (.int (v7_99 p1 p2 B0))])) rfl (by rw [hml]; rfl) (argsL := [(.ref r0), (.int p1), (.int (2 : Int32))]) (rest := [(.int (v7_99 p1 p2 B0))]) (lenOf pd_1 rfl) rfl (by show 2 * 0 + _ ≤ _; exact Nat.le_of_eq rfl) (hb hby d7_142) (fun _ _ => ⟨rfl, eh51, (by decide : 0 + 0 ≤ _), (by decide : 0 + 0 ≤ _)⟩)
      dsimp only [Pt.U, Pt.locs, Pt.cells, Pt.slots] at X58 l58 y58 z58 st58 hQ58
      subst l58 y58 z58
      obtain ⟨rfl, N58q, eh58⟩ := hQ58
      have N58 := Fr.app N51 N58q
      have k59 : own_Go p e below (s₁.setTop (entryFrame m #[(.ref r0), (.int p1), (.int p2)] 6)) (T58.setTop (mkF m 145 #[.val (.ref r0), .val (.int p1), .val (.int p2), .val (.int (v7_122 p1 p2 B0)), .val (.int (v7_99 p1 p2 B0)), .val (.int (v7_130 p1 p2 B0))] [(.int (f9 p1 (2 : Int32) B0)), (.int (v7_99 p1 p2 B0))])) := fun t k => k57 t (st58 t k)
      by_cases hc145_60 : (f9 p1 (2 : Int32) B0) = (0 : Int32)
      · have k61 : own_Go p e below (s₁.setTop (entryFrame m #[(.ref r0), (.int p1), (.int p2)] 6)) (T58.setTop (mkF m 157 #[.val (.ref r0), .val (.int p1), .val (.int p2), .val (.int (v7_122 p1 p2 B0)), .val (.int (v7_99 p1 p2 B0)), .val (.int (v7_130 p1 p2 B0))] [(.int (0 : Int32)), (.int (v7_99 p1 p2 B0))])) := by
          intro t k
          refine k59 t ?_
          show Steps p.tables e below (T58.setTop (mkF m 145 #[.val (.ref r0), .val (.int p1), .val (.int p2), .val (.int (v7_122 p1 p2 B0)), .val (.int (v7_99 p1 p2 B0)), .val (.int (v7_130 p1 p2 B0))] [(.int (f9 p1 (2 : Int32) B0)), (.int (v7_99 p1 p2 B0))])) t
          refine XS.ifYes X58.here hx rfl (pc0 := 145) (pc' := 156) rfl (hb hby d7_145) rfl ((if0 _ _).trans (teq hc145_60).1) (by decide) (by decide) ?_
          show Steps p.tables e below (T58.setTop (mkF m 156 #[.val (.ref r0), .val (.int p1), .val (.int p2), .val (.int (v7_122 p1 p2 B0)), .val (.int (v7_99 p1 p2 B0)), .val (.int (v7_130 p1 p2 B0))] [(.int (v7_99 p1 p2 B0))])) t
          refine XS.iconst X58.here hx rfl (hb hby d7_156) ?_
          exact k
        exact ⟨_, _, X58, eh58, N58, (by rw [show (m7_157_s0 p1 p2 B0) = (0 : Int32) from (by unfold m7_157_s0; rw [if_neg hc136_55, if_pos hc145_60])]; exact k61)⟩
      · have k62 : own_Go p e below (s₁.setTop (entryFrame m #[(.ref r0), (.int p1), (.int p2)] 6)) (T58.setTop (mkF m 149 #[.val (.ref r0), .val (.int p1), .val (.int p2), .val (.int (v7_122 p1 p2 B0)), .val (.int (v7_99 p1 p2 B0)), .val (.int (v7_130 p1 p2 B0))] [(.int (v7_122 p1 p2 B0)), (.int (v7_99 p1 p2 B0))])) := by
          intro t k
          refine k59 t ?_
          show Steps p.tables e below (T58.setTop (mkF m 145 #[.val (.ref r0), .val (.int p1), .val (.int p2), .val (.int (v7_122 p1 p2 B0)), .val (.int (v7_99 p1 p2 B0)), .val (.int (v7_130 p1 p2 B0))] [(.int (f9 p1 (2 : Int32) B0)), (.int (v7_99 p1 p2 B0))])) t
          refine XS.ifNo X58.here hx rfl (hb hby d7_145) rfl ((if0 _ _).trans (feq hc145_60).1) ?_
          show Steps p.tables e below (T58.setTop (mkF m 148 #[.val (.ref r0), .val (.int p1), .val (.int p2), .val (.int (v7_122 p1 p2 B0)), .val (.int (v7_99 p1 p2 B0)), .val (.int (v7_130 p1 p2 B0))] [(.int (v7_99 p1 p2 B0))])) t
          refine XS.iloadN X58.here hx rfl (hb hby d7_148) rfl ?_
          exact k
        by_cases hc149_63 : (v7_122 p1 p2 B0) = (0 : Int32)
        · have k64 : own_Go p e below (s₁.setTop (entryFrame m #[(.ref r0), (.int p1), (.int p2)] 6)) (T58.setTop (mkF m 157 #[.val (.ref r0), .val (.int p1), .val (.int p2), .val (.int (v7_122 p1 p2 B0)), .val (.int (v7_99 p1 p2 B0)), .val (.int (v7_130 p1 p2 B0))] [(.int (0 : Int32)), (.int (v7_99 p1 p2 B0))])) := by
            intro t k
            refine k62 t ?_
            show Steps p.tables e below (T58.setTop (mkF m 149 #[.val (.ref r0), .val (.int p1), .val (.int p2), .val (.int (v7_122 p1 p2 B0)), .val (.int (v7_99 p1 p2 B0)), .val (.int (v7_130 p1 p2 B0))] [(.int (v7_122 p1 p2 B0)), (.int (v7_99 p1 p2 B0))])) t
            refine XS.ifYes X58.here hx rfl (pc0 := 149) (pc' := 156) rfl (hb hby d7_149) rfl ((if0 _ _).trans (teq hc149_63).1) (by decide) (by decide) ?_
            show Steps p.tables e below (T58.setTop (mkF m 156 #[.val (.ref r0), .val (.int p1), .val (.int p2), .val (.int (v7_122 p1 p2 B0)), .val (.int (v7_99 p1 p2 B0)), .val (.int (v7_130 p1 p2 B0))] [(.int (v7_99 p1 p2 B0))])) t
            refine XS.iconst X58.here hx rfl (hb hby d7_156) ?_
            exact k
          exact ⟨_, _, X58, eh58, N58, (by rw [show (m7_157_s0 p1 p2 B0) = (0 : Int32) from (by unfold m7_157_s0; rw [if_neg hc136_55, if_neg hc145_60, if_pos hc149_63])]; exact k64)⟩
        · have k65 : own_Go p e below (s₁.setTop (entryFrame m #[(.ref r0), (.int p1), (.int p2)] 6)) (T58.setTop (mkF m 157 #[.val (.ref r0), .val (.int p1), .val (.int p2), .val (.int (v7_122 p1 p2 B0)), .val (.int (v7_99 p1 p2 B0)), .val (.int (v7_130 p1 p2 B0))] [(.int (1 : Int32)), (.int (v7_99 p1 p2 B0))])) := by
            intro t k
            refine k62 t ?_
            show Steps p.tables e below (T58.setTop (mkF m 149 #[.val (.ref r0), .val (.int p1), .val (.int p2), .val (.int (v7_122 p1 p2 B0)), .val (.int (v7_99 p1 p2 B0)), .val (.int (v7_130 p1 p2 B0))] [(.int (v7_122 p1 p2 B0)), (.int (v7_99 p1 p2 B0))])) t
            refine XS.ifNo X58.here hx rfl (hb hby d7_149) rfl ((if0 _ _).trans (feq hc149_63).1) ?_
            show Steps p.tables e below (T58.setTop (mkF m 152 #[.val (.ref r0), .val (.int p1), .val (.int p2), .val (.int (v7_122 p1 p2 B0)), .val (.int (v7_99 p1 p2 B0)), .val (.int (v7_130 p1 p2 B0))] [(.int (v7_99 p1 p2 B0))])) t
            refine XS.iconst X58.here hx rfl (hb hby d7_152) ?_
            show Steps p.tables e below (T58.setTop (mkF m 153 #[.val (.ref r0), .val (.int p1), .val (.int p2), .val (.int (v7_122 p1 p2 B0)), .val (.int (v7_99 p1 p2 B0)), .val (.int (v7_130 p1 p2 B0))] [(.int (1 : Int32)), (.int (v7_99 p1 p2 B0))])) t
            refine XS.goto X58.here hx rfl (pc0 := 153) (pc' := 157) rfl (hb hby d7_153) (by decide) (by decide) ?_
            exact k
          exact ⟨_, _, X58, eh58, N58, (by rw [show (m7_157_s0 p1 p2 B0) = (1 : Int32) from (by unfold m7_157_s0; rw [if_neg hc136_55, if_neg hc145_60, if_neg hc149_63])]; exact k65)⟩
  have k66 : own_Go p e below (s₁.setTop (entryFrame m #[(.ref r0), (.int p1), (.int p2)] 6)) (T54.setTop (mkF m 163 #[.val (.ref r0), .val (.int p1), .val (.int p2), .val (.int (v7_122 p1 p2 B0)), .val (.int (v7_158 p1 p2 B0)), .val (.int (v7_130 p1 p2 B0))] [(.int (v7_130 p1 p2 B0)), (.int (v7_122 p1 p2 B0))])) := by
    intro t k
    refine k54 t ?_
    show Steps p.tables e below (T54.setTop (mkF m 157 #[.val (.ref r0), .val (.int p1), .val (.int p2), .val (.int (v7_122 p1 p2 B0)), .val (.int (v7_99 p1 p2 B0)), .val (.int (v7_130 p1 p2 B0))] [(.int (m7_157_s0 p1 p2 B0)), (.int (v7_99 p1 p2 B0))])) t
    refine XS.ior X54.here hx rfl (hb hby d7_157) rfl ?_
    show Steps p.tables e below (T54.setTop (mkF m 158 #[.val (.ref r0), .val (.int p1), .val (.int p2), .val (.int (v7_122 p1 p2 B0)), .val (.int (v7_99 p1 p2 B0)), .val (.int (v7_130 p1 p2 B0))] [(.int ((v7_99 p1 p2 B0) ||| (m7_157_s0 p1 p2 B0)))])) t
    refine XS.istore X54.here hx rfl (hb hby d7_158) rfl (l' := #[.val (.ref r0), .val (.int p1), .val (.int p2), .val (.int (v7_122 p1 p2 B0)), .val (.int (v7_158 p1 p2 B0)), .val (.int (v7_130 p1 p2 B0))]) rfl ?_
    show Steps p.tables e below (T54.setTop (mkF m 160 #[.val (.ref r0), .val (.int p1), .val (.int p2), .val (.int (v7_122 p1 p2 B0)), .val (.int (v7_158 p1 p2 B0)), .val (.int (v7_130 p1 p2 B0))] [])) t
    refine XS.iloadN X54.here hx rfl (hb hby d7_160) rfl ?_
    show Steps p.tables e below (T54.setTop (mkF m 161 #[.val (.ref r0), .val (.int p1), .val (.int p2), .val (.int (v7_122 p1 p2 B0)), .val (.int (v7_158 p1 p2 B0)), .val (.int (v7_130 p1 p2 B0))] [(.int (v7_122 p1 p2 B0))])) t
    refine XS.iload X54.here hx rfl (hb hby d7_161) rfl ?_
    exact k
  obtain ⟨T67, L67, X67, e67, N67, k67⟩ : ∃ (T67 : State) (L67 : List Loc), Stand p l e ({ frames := 1, cells := 0, slots := 0, locals := 15 } : Room) s m #[(.ref r0), (.int p1), (.int p2)] below meth c T67 L67 0 0 ∧ T67.heap = h0 ∧ Fr n0 L67 ∧ own_Go p e below (s₁.setTop (entryFrame m #[(.ref r0), (.int p1), (.int p2)] 6)) (T67.setTop (mkF m 180 #[.val (.ref r0), .val (.int p1), .val (.int p2), .val (.int (v7_122 p1 p2 B0)), .val (.int (v7_158 p1 p2 B0)), .val (.int (v7_130 p1 p2 B0))] [(.int (m7_180_s0 p1 p2 B0)), (.int (v7_122 p1 p2 B0))])) := by
    by_cases hc163_68 : (v7_130 p1 p2 B0) = (0 : Int32)
    · have k69 : own_Go p e below (s₁.setTop (entryFrame m #[(.ref r0), (.int p1), (.int p2)] 6)) (T54.setTop (mkF m 180 #[.val (.ref r0), .val (.int p1), .val (.int p2), .val (.int (v7_122 p1 p2 B0)), .val (.int (v7_158 p1 p2 B0)), .val (.int (v7_130 p1 p2 B0))] [(.int (0 : Int32)), (.int (v7_122 p1 p2 B0))])) := by
        intro t k
        refine k66 t ?_
        show Steps p.tables e below (T54.setTop (mkF m 163 #[.val (.ref r0), .val (.int p1), .val (.int p2), .val (.int (v7_122 p1 p2 B0)), .val (.int (v7_158 p1 p2 B0)), .val (.int (v7_130 p1 p2 B0))] [(.int (v7_130 p1 p2 B0)), (.int (v7_122 p1 p2 B0))])) t
        refine XS.ifYes X54.here hx rfl (pc0 := 163) (pc' := 179) rfl (hb hby d7_163) rfl ((if0 _ _).trans (teq hc163_68).1) (by decide) (by decide) ?_
        show Steps p.tables e below (T54.setTop (mkF m 179 #[.val (.ref r0), .val (.int p1), .val (.int p2), .val (.int (v7_122 p1 p2 B0)), .val (.int (v7_158 p1 p2 B0)), .val (.int (v7_130 p1 p2 B0))] [(.int (v7_122 p1 p2 B0))])) t
        refine XS.iconst X54.here hx rfl (hb hby d7_179) ?_
        exact k
      exact ⟨_, _, X54, e54, N54, (by rw [show (m7_180_s0 p1 p2 B0) = (0 : Int32) from (by unfold m7_180_s0; rw [if_pos hc163_68])]; exact k69)⟩
    · have k70 : own_Go p e below (s₁.setTop (entryFrame m #[(.ref r0), (.int p1), (.int p2)] 6)) (T54.setTop (mkF m 169 #[.val (.ref r0), .val (.int p1), .val (.int p2), .val (.int (v7_122 p1 p2 B0)), .val (.int (v7_158 p1 p2 B0)), .val (.int (v7_130 p1 p2 B0))] [(.int (2 : Int32)), (.int p1), (.ref r0), (.int (v7_122 p1 p2 B0))])) := by
        intro t k
        refine k66 t ?_
        show Steps p.tables e below (T54.setTop (mkF m 163 #[.val (.ref r0), .val (.int p1), .val (.int p2), .val (.int (v7_122 p1 p2 B0)), .val (.int (v7_158 p1 p2 B0)), .val (.int (v7_130 p1 p2 B0))] [(.int (v7_130 p1 p2 B0)), (.int (v7_122 p1 p2 B0))])) t
        refine XS.ifNo X54.here hx rfl (hb hby d7_163) rfl ((if0 _ _).trans (feq hc163_68).1) ?_
        show Steps p.tables e below (T54.setTop (mkF m 166 #[.val (.ref r0), .val (.int p1), .val (.int p2), .val (.int (v7_122 p1 p2 B0)), .val (.int (v7_158 p1 p2 B0)), .val (.int (v7_130 p1 p2 B0))] [(.int (v7_122 p1 p2 B0))])) t
        refine XS.aloadN X54.here hx rfl (hb hby d7_166) rfl rfl ?_
        show Steps p.tables e below (T54.setTop (mkF m 167 #[.val (.ref r0), .val (.int p1), .val (.int p2), .val (.int (v7_122 p1 p2 B0)), .val (.int (v7_158 p1 p2 B0)), .val (.int (v7_130 p1 p2 B0))] [(.ref r0), (.int (v7_122 p1 p2 B0))])) t
        refine XS.iloadN X54.here hx rfl (hb hby d7_167) rfl ?_
        show Steps p.tables e below (T54.setTop (mkF m 168 #[.val (.ref r0), .val (.int p1), .val (.int p2), .val (.int (v7_122 p1 p2 B0)), .val (.int (v7_158 p1 p2 B0)), .val (.int (v7_130 p1 p2 B0))] [(.int p1), (.ref r0), (.int (v7_122 p1 p2 B0))])) t
        refine XS.iconst X54.here hx rfl (hb hby d7_168) ?_
        exact k
      obtain ⟨_, _, ⟨T71, L71, kk71, n71⟩, -, X71, ⟨Lc71, hQ71, l71, y71, z71⟩, st71⟩ := Jvm.LawKit.callS X54 hx (y := (⟨"com/example/dosewire/dosewire/server/net/EndEndsInPinLaw", "emptyLine", "([BII)Z"⟩ : MethodName)) hown (mvT hZ (hw _ (List.mem_of_getElem? (i := 39) rfl))) (mvT hZ (hw _ (List.mem_of_getElem? (i := 40) rfl))) (mvT hZ (hw _ (List.mem_of_getElem? (i := 3) rfl))) (mvT hZ (hw _ (List.mem_of_getElem? (i := 41) rfl))) (by decide) (backOf (W := 1) (rm9 l Z a0 hw [] r0 p1 (2 : Int32) B0 h0 n0 Z0 V_r0 (own_lf hlo (by decide) (by decide) hc163_68)) hZ (hw _ (List.mem_of_getElem? (i := 41) rfl)) (hw _ (List.mem_of_getElem? (i := 3) rfl)) (by decide) (by decide)) (g := (mkF m 169 #[.val (.ref r0), .val (.int p1), .val (.int p2), .val (.int (v7_122 p1 p2 B0)), .val (.int (v7_158 p1 p2 B0)), .val (.int (v7_130 p1 p2 B0))] [(.int (2 : Int32)), (.int p1), (.ref r0), (.int (v7_122 p1 p2 B0))])) rfl (by rw [hml]; rfl) (argsL := [(.ref r0), (.int p1), (.int (2 : Int32))]) (rest := [(.int (v7_122 p1 p2 B0))]) (lenOf pd_1 rfl) rfl (by show 2 * 0 + _ ≤ _; exact Nat.le_of_eq rfl) (hb hby d7_169) (fun _ _ => ⟨rfl, e54, (by decide : 0 + 0 ≤ _), (by decide : 0 + 0 ≤ _)⟩)
      dsimp only [Pt.U, Pt.locs, Pt.cells, Pt.slots] at X71 l71 y71 z71 st71 hQ71
      subst l71 y71 z71
      obtain ⟨rfl, N71q, eh71⟩ := hQ71
      have N71 := Fr.app N54 N71q
      have k72 : own_Go p e below (s₁.setTop (entryFrame m #[(.ref r0), (.int p1), (.int p2)] 6)) (T71.setTop (mkF m 172 #[.val (.ref r0), .val (.int p1), .val (.int p2), .val (.int (v7_122 p1 p2 B0)), .val (.int (v7_158 p1 p2 B0)), .val (.int (v7_130 p1 p2 B0))] [(.int (f9 p1 (2 : Int32) B0)), (.int (v7_122 p1 p2 B0))])) := fun t k => k70 t (st71 t k)
      by_cases hc172_73 : (f9 p1 (2 : Int32) B0) = (0 : Int32)
      · have k74 : own_Go p e below (s₁.setTop (entryFrame m #[(.ref r0), (.int p1), (.int p2)] 6)) (T71.setTop (mkF m 180 #[.val (.ref r0), .val (.int p1), .val (.int p2), .val (.int (v7_122 p1 p2 B0)), .val (.int (v7_158 p1 p2 B0)), .val (.int (v7_130 p1 p2 B0))] [(.int (1 : Int32)), (.int (v7_122 p1 p2 B0))])) := by
          intro t k
          refine k72 t ?_
          show Steps p.tables e below (T71.setTop (mkF m 172 #[.val (.ref r0), .val (.int p1), .val (.int p2), .val (.int (v7_122 p1 p2 B0)), .val (.int (v7_158 p1 p2 B0)), .val (.int (v7_130 p1 p2 B0))] [(.int (f9 p1 (2 : Int32) B0)), (.int (v7_122 p1 p2 B0))])) t
          refine XS.ifNo X71.here hx rfl (hb hby d7_172) rfl ((if0 _ _).trans (teq hc172_73).2) ?_
          show Steps p.tables e below (T71.setTop (mkF m 175 #[.val (.ref r0), .val (.int p1), .val (.int p2), .val (.int (v7_122 p1 p2 B0)), .val (.int (v7_158 p1 p2 B0)), .val (.int (v7_130 p1 p2 B0))] [(.int (v7_122 p1 p2 B0))])) t
          refine XS.iconst X71.here hx rfl (hb hby d7_175) ?_
          show Steps p.tables e below (T71.setTop (mkF m 176 #[.val (.ref r0), .val (.int p1), .val (.int p2), .val (.int (v7_122 p1 p2 B0)), .val (.int (v7_158 p1 p2 B0)), .val (.int (v7_130 p1 p2 B0))] [(.int (1 : Int32)), (.int (v7_122 p1 p2 B0))])) t
          refine XS.goto X71.here hx rfl (pc0 := 176) (pc' := 180) rfl (hb hby d7_176) (by decide) (by decide) ?_
          exact k
        exact ⟨_, _, X71, eh71, N71, (by rw [show (m7_180_s0 p1 p2 B0) = (1 : Int32) from (by unfold m7_180_s0; rw [if_neg hc163_68, if_pos hc172_73])]; exact k74)⟩
      · have k75 : own_Go p e below (s₁.setTop (entryFrame m #[(.ref r0), (.int p1), (.int p2)] 6)) (T71.setTop (mkF m 180 #[.val (.ref r0), .val (.int p1), .val (.int p2), .val (.int (v7_122 p1 p2 B0)), .val (.int (v7_158 p1 p2 B0)), .val (.int (v7_130 p1 p2 B0))] [(.int (0 : Int32)), (.int (v7_122 p1 p2 B0))])) := by
          intro t k
          refine k72 t ?_
          show Steps p.tables e below (T71.setTop (mkF m 172 #[.val (.ref r0), .val (.int p1), .val (.int p2), .val (.int (v7_122 p1 p2 B0)), .val (.int (v7_158 p1 p2 B0)), .val (.int (v7_130 p1 p2 B0))] [(.int (f9 p1 (2 : Int32) B0)), (.int (v7_122 p1 p2 B0))])) t
          refine XS.ifYes X71.here hx rfl (pc0 := 172) (pc' := 179) rfl (hb hby d7_172) rfl ((if0 _ _).trans (feq hc172_73).2) (by decide) (by decide) ?_
          show Steps p.tables e below (T71.setTop (mkF m 179 #[.val (.ref r0), .val (.int p1), .val (.int p2), .val (.int (v7_122 p1 p2 B0)), .val (.int (v7_158 p1 p2 B0)), .val (.int (v7_130 p1 p2 B0))] [(.int (v7_122 p1 p2 B0))])) t
          refine XS.iconst X71.here hx rfl (hb hby d7_179) ?_
          exact k
        exact ⟨_, _, X71, eh71, N71, (by rw [show (m7_180_s0 p1 p2 B0) = (0 : Int32) from (by unfold m7_180_s0; rw [if_neg hc163_68, if_neg hc172_73])]; exact k75)⟩
  have k76 : own_Go p e below (s₁.setTop (entryFrame m #[(.ref r0), (.int p1), (.int p2)] 6)) (T67.setTop (mkF m 186 #[.val (.ref r0), .val (.int p1), .val (.int p2), .val (.int (v7_181 p1 p2 B0)), .val (.int (v7_158 p1 p2 B0)), .val (.int (v7_130 p1 p2 B0))] [(.int (3 : Int32)), (.int p2), (.int p1), (.ref r0)])) := by
    intro t k
    refine k67 t ?_
    show Steps p.tables e below (T67.setTop (mkF m 180 #[.val (.ref r0), .val (.int p1), .val (.int p2), .val (.int (v7_122 p1 p2 B0)), .val (.int (v7_158 p1 p2 B0)), .val (.int (v7_130 p1 p2 B0))] [(.int (m7_180_s0 p1 p2 B0)), (.int (v7_122 p1 p2 B0))])) t
    refine XS.ior X67.here hx rfl (hb hby d7_180) rfl ?_
    show Steps p.tables e below (T67.setTop (mkF m 181 #[.val (.ref r0), .val (.int p1), .val (.int p2), .val (.int (v7_122 p1 p2 B0)), .val (.int (v7_158 p1 p2 B0)), .val (.int (v7_130 p1 p2 B0))] [(.int ((v7_122 p1 p2 B0) ||| (m7_180_s0 p1 p2 B0)))])) t
    refine XS.istoreN X67.here hx rfl (hb hby d7_181) rfl (l' := #[.val (.ref r0), .val (.int p1), .val (.int p2), .val (.int (v7_181 p1 p2 B0)), .val (.int (v7_158 p1 p2 B0)), .val (.int (v7_130 p1 p2 B0))]) rfl ?_
    show Steps p.tables e below (T67.setTop (mkF m 182 #[.val (.ref r0), .val (.int p1), .val (.int p2), .val (.int (v7_181 p1 p2 B0)), .val (.int (v7_158 p1 p2 B0)), .val (.int (v7_130 p1 p2 B0))] [])) t
    refine XS.aloadN X67.here hx rfl (hb hby d7_182) rfl rfl ?_
    show Steps p.tables e below (T67.setTop (mkF m 183 #[.val (.ref r0), .val (.int p1), .val (.int p2), .val (.int (v7_181 p1 p2 B0)), .val (.int (v7_158 p1 p2 B0)), .val (.int (v7_130 p1 p2 B0))] [(.ref r0)])) t
    refine XS.iloadN X67.here hx rfl (hb hby d7_183) rfl ?_
    show Steps p.tables e below (T67.setTop (mkF m 184 #[.val (.ref r0), .val (.int p1), .val (.int p2), .val (.int (v7_181 p1 p2 B0)), .val (.int (v7_158 p1 p2 B0)), .val (.int (v7_130 p1 p2 B0))] [(.int p1), (.ref r0)])) t
    refine XS.iloadN X67.here hx rfl (hb hby d7_184) rfl ?_
    show Steps p.tables e below (T67.setTop (mkF m 185 #[.val (.ref r0), .val (.int p1), .val (.int p2), .val (.int (v7_181 p1 p2 B0)), .val (.int (v7_158 p1 p2 B0)), .val (.int (v7_130 p1 p2 B0))] [(.int p2), (.int p1), (.ref r0)])) t
    refine XS.iconst X67.here hx rfl (hb hby d7_185) ?_
    exact k
  obtain ⟨_, _, ⟨T77, L77, kk77, n77⟩, -, X77, ⟨Lc77, hQ77, l77, y77, z77⟩, st77⟩ := Jvm.LawKit.callS X67 hx (y := (⟨"com/example/dosewire/dosewire/server/net/EndEndsInPinLaw", "lfAt", "([BIII)Z"⟩ : MethodName)) hown (mvT hZ (hw _ (List.mem_of_getElem? (i := 36) rfl))) (mvT hZ (hw _ (List.mem_of_getElem? (i := 37) rfl))) (mvT hZ (hw _ (List.mem_of_getElem? (i := 3) rfl))) (mvT hZ (hw _ (List.mem_of_getElem? (i := 38) rfl))) (by decide) (backOf (W := 0) (rm8 l Z a0 hw [] r0 p1 p2 (3 : Int32) B0 h0 n0 Z0 V_r0 ⟨by decide, by decide⟩) hZ (hw _ (List.mem_of_getElem? (i := 38) rfl)) (hw _ (List.mem_of_getElem? (i := 3) rfl)) (by decide) (by decide)) (g := (mkF m 186 #[.val (.ref r0), .val (.int p1), .val (.int p2), .val (.int (v7_181 p1 p2 B0)), .val (.int (v7_158 p1 p2 B0)), .val (.int (v7_130 p1 p2 B0))] [(.int (3 : Int32)), (.int p2), (.int p1), (.ref r0)])) rfl (by rw [hml]; rfl) (argsL := [(.ref r0), (.int p1), (.int p2), (.int (3 : Int32))]) (rest := []) (lenOf pd_0 rfl) rfl (by show 2 * 0 + _ ≤ _; exact Nat.le_of_eq rfl) (hb hby d7_186) (fun _ _ => ⟨rfl, e67, (by decide : 0 + 0 ≤ _), (by decide : 0 + 0 ≤ _)⟩)
  dsimp only [Pt.U, Pt.locs, Pt.cells, Pt.slots] at X77 l77 y77 z77 st77 hQ77
  subst l77 y77 z77
  obtain ⟨rfl, N77q, eh77⟩ := hQ77
  have N77 := Fr.app N67 N77q
  have k78 : own_Go p e below (s₁.setTop (entryFrame m #[(.ref r0), (.int p1), (.int p2)] 6)) (T77.setTop (mkF m 189 #[.val (.ref r0), .val (.int p1), .val (.int p2), .val (.int (v7_181 p1 p2 B0)), .val (.int (v7_158 p1 p2 B0)), .val (.int (v7_130 p1 p2 B0))] [(.int (f8 p1 p2 (3 : Int32) B0))])) := fun t k => k76 t (st77 t k)
  have k79 : own_Go p e below (s₁.setTop (entryFrame m #[(.ref r0), (.int p1), (.int p2)] 6)) (T77.setTop (mkF m 195 #[.val (.ref r0), .val (.int p1), .val (.int p2), .val (.int (v7_181 p1 p2 B0)), .val (.int (v7_158 p1 p2 B0)), .val (.int (v7_189 p1 p2 B0))] [(.int (v7_189 p1 p2 B0)), (.int (v7_158 p1 p2 B0))])) := by
    intro t k
    refine k78 t ?_
    show Steps p.tables e below (T77.setTop (mkF m 189 #[.val (.ref r0), .val (.int p1), .val (.int p2), .val (.int (v7_181 p1 p2 B0)), .val (.int (v7_158 p1 p2 B0)), .val (.int (v7_130 p1 p2 B0))] [(.int (f8 p1 p2 (3 : Int32) B0))])) t
    refine XS.istore X77.here hx rfl (hb hby d7_189) rfl (l' := #[.val (.ref r0), .val (.int p1), .val (.int p2), .val (.int (v7_181 p1 p2 B0)), .val (.int (v7_158 p1 p2 B0)), .val (.int (v7_189 p1 p2 B0))]) rfl ?_
    show Steps p.tables e below (T77.setTop (mkF m 191 #[.val (.ref r0), .val (.int p1), .val (.int p2), .val (.int (v7_181 p1 p2 B0)), .val (.int (v7_158 p1 p2 B0)), .val (.int (v7_189 p1 p2 B0))] [])) t
    refine XS.iload X77.here hx rfl (hb hby d7_191) rfl ?_
    show Steps p.tables e below (T77.setTop (mkF m 193 #[.val (.ref r0), .val (.int p1), .val (.int p2), .val (.int (v7_181 p1 p2 B0)), .val (.int (v7_158 p1 p2 B0)), .val (.int (v7_189 p1 p2 B0))] [(.int (v7_158 p1 p2 B0))])) t
    refine XS.iload X77.here hx rfl (hb hby d7_193) rfl ?_
    exact k
  obtain ⟨T80, L80, X80, e80, N80, k80⟩ : ∃ (T80 : State) (L80 : List Loc), Stand p l e ({ frames := 1, cells := 0, slots := 0, locals := 15 } : Room) s m #[(.ref r0), (.int p1), (.int p2)] below meth c T80 L80 0 0 ∧ T80.heap = h0 ∧ Fr n0 L80 ∧ own_Go p e below (s₁.setTop (entryFrame m #[(.ref r0), (.int p1), (.int p2)] 6)) (T80.setTop (mkF m 216 #[.val (.ref r0), .val (.int p1), .val (.int p2), .val (.int (v7_181 p1 p2 B0)), .val (.int (v7_158 p1 p2 B0)), .val (.int (v7_189 p1 p2 B0))] [(.int (m7_216_s0 p1 p2 B0)), (.int (v7_158 p1 p2 B0))])) := by
    by_cases hc195_81 : (v7_189 p1 p2 B0) = (0 : Int32)
    · have k82 : own_Go p e below (s₁.setTop (entryFrame m #[(.ref r0), (.int p1), (.int p2)] 6)) (T77.setTop (mkF m 216 #[.val (.ref r0), .val (.int p1), .val (.int p2), .val (.int (v7_181 p1 p2 B0)), .val (.int (v7_158 p1 p2 B0)), .val (.int (v7_189 p1 p2 B0))] [(.int (0 : Int32)), (.int (v7_158 p1 p2 B0))])) := by
        intro t k
        refine k79 t ?_
        show Steps p.tables e below (T77.setTop (mkF m 195 #[.val (.ref r0), .val (.int p1), .val (.int p2), .val (.int (v7_181 p1 p2 B0)), .val (.int (v7_158 p1 p2 B0)), .val (.int (v7_189 p1 p2 B0))] [(.int (v7_189 p1 p2 B0)), (.int (v7_158 p1 p2 B0))])) t
        refine XS.ifYes X77.here hx rfl (pc0 := 195) (pc' := 215) rfl (hb hby d7_195) rfl ((if0 _ _).trans (teq hc195_81).1) (by decide) (by decide) ?_
        show Steps p.tables e below (T77.setTop (mkF m 215 #[.val (.ref r0), .val (.int p1), .val (.int p2), .val (.int (v7_181 p1 p2 B0)), .val (.int (v7_158 p1 p2 B0)), .val (.int (v7_189 p1 p2 B0))] [(.int (v7_158 p1 p2 B0))])) t
        refine XS.iconst X77.here hx rfl (hb hby d7_215) ?_
        exact k
      exact ⟨_, _, X77, eh77, N77, (by rw [show (m7_216_s0 p1 p2 B0) = (0 : Int32) from (by unfold m7_216_s0; rw [if_pos hc195_81])]; exact k82)⟩
    · have k83 : own_Go p e below (s₁.setTop (entryFrame m #[(.ref r0), (.int p1), (.int p2)] 6)) (T77.setTop (mkF m 201 #[.val (.ref r0), .val (.int p1), .val (.int p2), .val (.int (v7_181 p1 p2 B0)), .val (.int (v7_158 p1 p2 B0)), .val (.int (v7_189 p1 p2 B0))] [(.int (3 : Int32)), (.int p1), (.ref r0), (.int (v7_158 p1 p2 B0))])) := by
        intro t k
        refine k79 t ?_
        show Steps p.tables e below (T77.setTop (mkF m 195 #[.val (.ref r0), .val (.int p1), .val (.int p2), .val (.int (v7_181 p1 p2 B0)), .val (.int (v7_158 p1 p2 B0)), .val (.int (v7_189 p1 p2 B0))] [(.int (v7_189 p1 p2 B0)), (.int (v7_158 p1 p2 B0))])) t
        refine XS.ifNo X77.here hx rfl (hb hby d7_195) rfl ((if0 _ _).trans (feq hc195_81).1) ?_
        show Steps p.tables e below (T77.setTop (mkF m 198 #[.val (.ref r0), .val (.int p1), .val (.int p2), .val (.int (v7_181 p1 p2 B0)), .val (.int (v7_158 p1 p2 B0)), .val (.int (v7_189 p1 p2 B0))] [(.int (v7_158 p1 p2 B0))])) t
        refine XS.aloadN X77.here hx rfl (hb hby d7_198) rfl rfl ?_
        show Steps p.tables e below (T77.setTop (mkF m 199 #[.val (.ref r0), .val (.int p1), .val (.int p2), .val (.int (v7_181 p1 p2 B0)), .val (.int (v7_158 p1 p2 B0)), .val (.int (v7_189 p1 p2 B0))] [(.ref r0), (.int (v7_158 p1 p2 B0))])) t
        refine XS.iloadN X77.here hx rfl (hb hby d7_199) rfl ?_
        show Steps p.tables e below (T77.setTop (mkF m 200 #[.val (.ref r0), .val (.int p1), .val (.int p2), .val (.int (v7_181 p1 p2 B0)), .val (.int (v7_158 p1 p2 B0)), .val (.int (v7_189 p1 p2 B0))] [(.int p1), (.ref r0), (.int (v7_158 p1 p2 B0))])) t
        refine XS.iconst X77.here hx rfl (hb hby d7_200) ?_
        exact k
      obtain ⟨_, _, ⟨T84, L84, kk84, n84⟩, -, X84, ⟨Lc84, hQ84, l84, y84, z84⟩, st84⟩ := Jvm.LawKit.callS X77 hx (y := (⟨"com/example/dosewire/dosewire/server/net/EndEndsInPinLaw", "emptyLine", "([BII)Z"⟩ : MethodName)) hown (mvT hZ (hw _ (List.mem_of_getElem? (i := 39) rfl))) (mvT hZ (hw _ (List.mem_of_getElem? (i := 40) rfl))) (mvT hZ (hw _ (List.mem_of_getElem? (i := 3) rfl))) (mvT hZ (hw _ (List.mem_of_getElem? (i := 41) rfl))) (by decide) (backOf (W := 1) (rm9 l Z a0 hw [] r0 p1 (3 : Int32) B0 h0 n0 Z0 V_r0 (own_lf hlo (by decide) (by decide) hc195_81)) hZ (hw _ (List.mem_of_getElem? (i := 41) rfl)) (hw _ (List.mem_of_getElem? (i := 3) rfl)) (by decide) (by decide)) (g := (mkF m 201 #[.val (.ref r0), .val (.int p1), .val (.int p2), .val (.int (v7_181 p1 p2 B0)), .val (.int (v7_158 p1 p2 B0)), .val (.int (v7_189 p1 p2 B0))] [(.int (3 : Int32)), (.int p1), (.ref r0), (.int (v7_158 p1 p2 B0))])) rfl (by rw [hml]; rfl) (argsL := [(.ref r0), (.int p1), (.int (3 : Int32))]) (rest := [(.int (v7_158 p1 p2 B0))]) (lenOf pd_1 rfl) rfl (by show 2 * 0 + _ ≤ _; exact Nat.le_of_eq rfl) (hb hby d7_201) (fun _ _ => ⟨rfl, eh77, (by decide : 0 + 0 ≤ _), (by decide : 0 + 0 ≤ _)⟩)
      dsimp only [Pt.U, Pt.locs, Pt.cells, Pt.slots] at X84 l84 y84 z84 st84 hQ84
      subst l84 y84 z84
      obtain ⟨rfl, N84q, eh84⟩ := hQ84
      have N84 := Fr.app N77 N84q
      have k85 : own_Go p e below (s₁.setTop (entryFrame m #[(.ref r0), (.int p1), (.int p2)] 6)) (T84.setTop (mkF m 204 #[.val (.ref r0), .val (.int p1), .val (.int p2), .val (.int (v7_181 p1 p2 B0)), .val (.int (v7_158 p1 p2 B0)), .val (.int (v7_189 p1 p2 B0))] [(.int (f9 p1 (3 : Int32) B0)), (.int (v7_158 p1 p2 B0))])) := fun t k => k83 t (st84 t k)
      by_cases hc204_86 : (f9 p1 (3 : Int32) B0) = (0 : Int32)
      · have k87 : own_Go p e below (s₁.setTop (entryFrame m #[(.ref r0), (.int p1), (.int p2)] 6)) (T84.setTop (mkF m 216 #[.val (.ref r0), .val (.int p1), .val (.int p2), .val (.int (v7_181 p1 p2 B0)), .val (.int (v7_158 p1 p2 B0)), .val (.int (v7_189 p1 p2 B0))] [(.int (0 : Int32)), (.int (v7_158 p1 p2 B0))])) := by
          intro t k
          refine k85 t ?_
          show Steps p.tables e below (T84.setTop (mkF m 204 #[.val (.ref r0), .val (.int p1), .val (.int p2), .val (.int (v7_181 p1 p2 B0)), .val (.int (v7_158 p1 p2 B0)), .val (.int (v7_189 p1 p2 B0))] [(.int (f9 p1 (3 : Int32) B0)), (.int (v7_158 p1 p2 B0))])) t
          refine XS.ifYes X84.here hx rfl (pc0 := 204) (pc' := 215) rfl (hb hby d7_204) rfl ((if0 _ _).trans (teq hc204_86).1) (by decide) (by decide) ?_
          show Steps p.tables e below (T84.setTop (mkF m 215 #[.val (.ref r0), .val (.int p1), .val (.int p2), .val (.int (v7_181 p1 p2 B0)), .val (.int (v7_158 p1 p2 B0)), .val (.int (v7_189 p1 p2 B0))] [(.int (v7_158 p1 p2 B0))])) t
          refine XS.iconst X84.here hx rfl (hb hby d7_215) ?_
          exact k
        exact ⟨_, _, X84, eh84, N84, (by rw [show (m7_216_s0 p1 p2 B0) = (0 : Int32) from (by unfold m7_216_s0; rw [if_neg hc195_81, if_pos hc204_86])]; exact k87)⟩
      · have k88 : own_Go p e below (s₁.setTop (entryFrame m #[(.ref r0), (.int p1), (.int p2)] 6)) (T84.setTop (mkF m 208 #[.val (.ref r0), .val (.int p1), .val (.int p2), .val (.int (v7_181 p1 p2 B0)), .val (.int (v7_158 p1 p2 B0)), .val (.int (v7_189 p1 p2 B0))] [(.int (v7_181 p1 p2 B0)), (.int (v7_158 p1 p2 B0))])) := by
          intro t k
          refine k85 t ?_
          show Steps p.tables e below (T84.setTop (mkF m 204 #[.val (.ref r0), .val (.int p1), .val (.int p2), .val (.int (v7_181 p1 p2 B0)), .val (.int (v7_158 p1 p2 B0)), .val (.int (v7_189 p1 p2 B0))] [(.int (f9 p1 (3 : Int32) B0)), (.int (v7_158 p1 p2 B0))])) t
          refine XS.ifNo X84.here hx rfl (hb hby d7_204) rfl ((if0 _ _).trans (feq hc204_86).1) ?_
          show Steps p.tables e below (T84.setTop (mkF m 207 #[.val (.ref r0), .val (.int p1), .val (.int p2), .val (.int (v7_181 p1 p2 B0)), .val (.int (v7_158 p1 p2 B0)), .val (.int (v7_189 p1 p2 B0))] [(.int (v7_158 p1 p2 B0))])) t
          refine XS.iloadN X84.here hx rfl (hb hby d7_207) rfl ?_
          exact k
        by_cases hc208_89 : (v7_181 p1 p2 B0) = (0 : Int32)
        · have k90 : own_Go p e below (s₁.setTop (entryFrame m #[(.ref r0), (.int p1), (.int p2)] 6)) (T84.setTop (mkF m 216 #[.val (.ref r0), .val (.int p1), .val (.int p2), .val (.int (v7_181 p1 p2 B0)), .val (.int (v7_158 p1 p2 B0)), .val (.int (v7_189 p1 p2 B0))] [(.int (0 : Int32)), (.int (v7_158 p1 p2 B0))])) := by
            intro t k
            refine k88 t ?_
            show Steps p.tables e below (T84.setTop (mkF m 208 #[.val (.ref r0), .val (.int p1), .val (.int p2), .val (.int (v7_181 p1 p2 B0)), .val (.int (v7_158 p1 p2 B0)), .val (.int (v7_189 p1 p2 B0))] [(.int (v7_181 p1 p2 B0)), (.int (v7_158 p1 p2 B0))])) t
            refine XS.ifYes X84.here hx rfl (pc0 := 208) (pc' := 215) rfl (hb hby d7_208) rfl ((if0 _ _).trans (teq hc208_89).1) (by decide) (by decide) ?_
            show Steps p.tables e below (T84.setTop (mkF m 215 #[.val (.ref r0), .val (.int p1), .val (.int p2), .val (.int (v7_181 p1 p2 B0)), .val (.int (v7_158 p1 p2 B0)), .val (.int (v7_189 p1 p2 B0))] [(.int (v7_158 p1 p2 B0))])) t
            refine XS.iconst X84.here hx rfl (hb hby d7_215) ?_
            exact k
          exact ⟨_, _, X84, eh84, N84, (by rw [show (m7_216_s0 p1 p2 B0) = (0 : Int32) from (by unfold m7_216_s0; rw [if_neg hc195_81, if_neg hc204_86, if_pos hc208_89])]; exact k90)⟩
        · have k91 : own_Go p e below (s₁.setTop (entryFrame m #[(.ref r0), (.int p1), (.int p2)] 6)) (T84.setTop (mkF m 216 #[.val (.ref r0), .val (.int p1), .val (.int p2), .val (.int (v7_181 p1 p2 B0)), .val (.int (v7_158 p1 p2 B0)), .val (.int (v7_189 p1 p2 B0))] [(.int (1 : Int32)), (.int (v7_158 p1 p2 B0))])) := by
            intro t k
            refine k88 t ?_
            show Steps p.tables e below (T84.setTop (mkF m 208 #[.val (.ref r0), .val (.int p1), .val (.int p2), .val (.int (v7_181 p1 p2 B0)), .val (.int (v7_158 p1 p2 B0)), .val (.int (v7_189 p1 p2 B0))] [(.int (v7_181 p1 p2 B0)), (.int (v7_158 p1 p2 B0))])) t
            refine XS.ifNo X84.here hx rfl (hb hby d7_208) rfl ((if0 _ _).trans (feq hc208_89).1) ?_
            show Steps p.tables e below (T84.setTop (mkF m 211 #[.val (.ref r0), .val (.int p1), .val (.int p2), .val (.int (v7_181 p1 p2 B0)), .val (.int (v7_158 p1 p2 B0)), .val (.int (v7_189 p1 p2 B0))] [(.int (v7_158 p1 p2 B0))])) t
            refine XS.iconst X84.here hx rfl (hb hby d7_211) ?_
            show Steps p.tables e below (T84.setTop (mkF m 212 #[.val (.ref r0), .val (.int p1), .val (.int p2), .val (.int (v7_181 p1 p2 B0)), .val (.int (v7_158 p1 p2 B0)), .val (.int (v7_189 p1 p2 B0))] [(.int (1 : Int32)), (.int (v7_158 p1 p2 B0))])) t
            refine XS.goto X84.here hx rfl (pc0 := 212) (pc' := 216) rfl (hb hby d7_212) (by decide) (by decide) ?_
            exact k
          exact ⟨_, _, X84, eh84, N84, (by rw [show (m7_216_s0 p1 p2 B0) = (1 : Int32) from (by unfold m7_216_s0; rw [if_neg hc195_81, if_neg hc204_86, if_neg hc208_89])]; exact k91)⟩
  have k92 : own_Go p e below (s₁.setTop (entryFrame m #[(.ref r0), (.int p1), (.int p2)] 6)) (T80.setTop (mkF m 222 #[.val (.ref r0), .val (.int p1), .val (.int p2), .val (.int (v7_181 p1 p2 B0)), .val (.int (v7_217 p1 p2 B0)), .val (.int (v7_189 p1 p2 B0))] [(.int (v7_189 p1 p2 B0)), (.int (v7_181 p1 p2 B0))])) := by
    intro t k
    refine k80 t ?_
    show Steps p.tables e below (T80.setTop (mkF m 216 #[.val (.ref r0), .val (.int p1), .val (.int p2), .val (.int (v7_181 p1 p2 B0)), .val (.int (v7_158 p1 p2 B0)), .val (.int (v7_189 p1 p2 B0))] [(.int (m7_216_s0 p1 p2 B0)), (.int (v7_158 p1 p2 B0))])) t
    refine XS.ior X80.here hx rfl (hb hby d7_216) rfl ?_
    show Steps p.tables e below (T80.setTop (mkF m 217 #[.val (.ref r0), .val (.int p1), .val (.int p2), .val (.int (v7_181 p1 p2 B0)), .val (.int (v7_158 p1 p2 B0)), .val (.int (v7_189 p1 p2 B0))] [(.int ((v7_158 p1 p2 B0) ||| (m7_216_s0 p1 p2 B0)))])) t
    refine XS.istore X80.here hx rfl (hb hby d7_217) rfl (l' := #[.val (.ref r0), .val (.int p1), .val (.int p2), .val (.int (v7_181 p1 p2 B0)), .val (.int (v7_217 p1 p2 B0)), .val (.int (v7_189 p1 p2 B0))]) rfl ?_
    show Steps p.tables e below (T80.setTop (mkF m 219 #[.val (.ref r0), .val (.int p1), .val (.int p2), .val (.int (v7_181 p1 p2 B0)), .val (.int (v7_217 p1 p2 B0)), .val (.int (v7_189 p1 p2 B0))] [])) t
    refine XS.iloadN X80.here hx rfl (hb hby d7_219) rfl ?_
    show Steps p.tables e below (T80.setTop (mkF m 220 #[.val (.ref r0), .val (.int p1), .val (.int p2), .val (.int (v7_181 p1 p2 B0)), .val (.int (v7_217 p1 p2 B0)), .val (.int (v7_189 p1 p2 B0))] [(.int (v7_181 p1 p2 B0))])) t
    refine XS.iload X80.here hx rfl (hb hby d7_220) rfl ?_
    exact k
  obtain ⟨T93, L93, X93, e93, N93, k93⟩ : ∃ (T93 : State) (L93 : List Loc), Stand p l e ({ frames := 1, cells := 0, slots := 0, locals := 15 } : Room) s m #[(.ref r0), (.int p1), (.int p2)] below meth c T93 L93 0 0 ∧ T93.heap = h0 ∧ Fr n0 L93 ∧ own_Go p e below (s₁.setTop (entryFrame m #[(.ref r0), (.int p1), (.int p2)] 6)) (T93.setTop (mkF m 239 #[.val (.ref r0), .val (.int p1), .val (.int p2), .val (.int (v7_181 p1 p2 B0)), .val (.int (v7_217 p1 p2 B0)), .val (.int (v7_189 p1 p2 B0))] [(.int (m7_239_s0 p1 p2 B0)), (.int (v7_181 p1 p2 B0))])) := by
    by_cases hc222_94 : (v7_189 p1 p2 B0) = (0 : Int32)
    · have k95 : own_Go p e below (s₁.setTop (entryFrame m #[(.ref r0), (.int p1), (.int p2)] 6)) (T80.setTop (mkF m 239 #[.val (.ref r0), .val (.int p1), .val (.int p2), .val (.int (v7_181 p1 p2 B0)), .val (.int (v7_217 p1 p2 B0)), .val (.int (v7_189 p1 p2 B0))] [(.int (0 : Int32)), (.int (v7_181 p1 p2 B0))])) := by
        intro t k
        refine k92 t ?_
        show Steps p.tables e below (T80.setTop (mkF m 222 #[.val (.ref r0), .val (.int p1), .val (.int p2), .val (.int (v7_181 p1 p2 B0)), .val (.int (v7_217 p1 p2 B0)), .val (.int (v7_189 p1 p2 B0))] [(.int (v7_189 p1 p2 B0)), (.int (v7_181 p1 p2 B0))])) t
        refine XS.ifYes X80.here hx rfl (pc0 := 222) (pc' := 238) rfl (hb hby d7_222) rfl ((if0 _ _).trans (teq hc222_94).1) (by decide) (by decide) ?_
        show Steps p.tables e below (T80.setTop (mkF m 238 #[.val (.ref r0), .val (.int p1), .val (.int p2), .val (.int (v7_181 p1 p2 B0)), .val (.int (v7_217 p1 p2 B0)), .val (.int (v7_189 p1 p2 B0))] [(.int (v7_181 p1 p2 B0))])) t
        refine XS.iconst X80.here hx rfl (hb hby d7_238) ?_
        exact k
      exact ⟨_, _, X80, e80, N80, (by rw [show (m7_239_s0 p1 p2 B0) = (0 : Int32) from (by unfold m7_239_s0; rw [if_pos hc222_94])]; exact k95)⟩
    · have k96 : own_Go p e below (s₁.setTop (entryFrame m #[(.ref r0), (.int p1), (.int p2)] 6)) (T80.setTop (mkF m 228 #[.val (.ref r0), .val (.int p1), .val (.int p2), .val (.int (v7_181 p1 p2 B0)), .val (.int (v7_217 p1 p2 B0)), .val (.int (v7_189 p1 p2 B0))] [(.int (3 : Int32)), (.int p1), (.ref r0), (.int (v7_181 p1 p2 B0))])) := by
        intro t k
        refine k92 t ?_
        show Steps p.tables e below (T80.setTop (mkF m 222 #[.val (.ref r0), .val (.int p1), .val (.int p2), .val (.int (v7_181 p1 p2 B0)), .val (.int (v7_217 p1 p2 B0)), .val (.int (v7_189 p1 p2 B0))] [(.int (v7_189 p1 p2 B0)), (.int (v7_181 p1 p2 B0))])) t
        refine XS.ifNo X80.here hx rfl (hb hby d7_222) rfl ((if0 _ _).trans (feq hc222_94).1) ?_
        show Steps p.tables e below (T80.setTop (mkF m 225 #[.val (.ref r0), .val (.int p1), .val (.int p2), .val (.int (v7_181 p1 p2 B0)), .val (.int (v7_217 p1 p2 B0)), .val (.int (v7_189 p1 p2 B0))] [(.int (v7_181 p1 p2 B0))])) t
        refine XS.aloadN X80.here hx rfl (hb hby d7_225) rfl rfl ?_
        show Steps p.tables e below (T80.setTop (mkF m 226 #[.val (.ref r0), .val (.int p1), .val (.int p2), .val (.int (v7_181 p1 p2 B0)), .val (.int (v7_217 p1 p2 B0)), .val (.int (v7_189 p1 p2 B0))] [(.ref r0), (.int (v7_181 p1 p2 B0))])) t
        refine XS.iloadN X80.here hx rfl (hb hby d7_226) rfl ?_
        show Steps p.tables e below (T80.setTop (mkF m 227 #[.val (.ref r0), .val (.int p1), .val (.int p2), .val (.int (v7_181 p1 p2 B0)), .val (.int (v7_217 p1 p2 B0)), .val (.int (v7_189 p1 p2 B0))] [(.int p1), (.ref r0), (.int (v7_181 p1 p2 B0))])) t
        refine XS.iconst X80.here hx rfl (hb hby d7_227) ?_
        exact k
      obtain ⟨_, _, ⟨T97, L97, kk97, n97⟩, -, X97, ⟨Lc97, hQ97, l97, y97, z97⟩, st97⟩ := Jvm.LawKit.callS X80 hx (y := (⟨"com/example/dosewire/dosewire/server/net/EndEndsInPinLaw", "emptyLine", "([BII)Z"⟩ : MethodName)) hown (mvT hZ (hw _ (List.mem_of_getElem? (i := 39) rfl))) (mvT hZ (hw _ (List.mem_of_getElem? (i := 40) rfl))) (mvT hZ (hw _ (List.mem_of_getElem? (i := 3) rfl))) (mvT hZ (hw _ (List.mem_of_getElem? (i := 41) rfl))) (by decide) (backOf (W := 1) (rm9 l Z a0 hw [] r0 p1 (3 : Int32) B0 h0 n0 Z0 V_r0 (own_lf hlo (by decide) (by decide) hc222_94)) hZ (hw _ (List.mem_of_getElem? (i := 41) rfl)) (hw _ (List.mem_of_getElem? (i := 3) rfl)) (by decide) (by decide)) (g := (mkF m 228 #[.val (.ref r0), .val (.int p1), .val (.int p2), .val (.int (v7_181 p1 p2 B0)), .val (.int (v7_217 p1 p2 B0)), .val (.int (v7_189 p1 p2 B0))] [(.int (3 : Int32)), (.int p1), (.ref r0), (.int (v7_181 p1 p2 B0))])) rfl (by rw [hml]; rfl) (argsL := [(.ref r0), (.int p1), (.int (3 : Int32))]) (rest := [(.int (v7_181 p1 p2 B0))]) (lenOf pd_1 rfl) rfl (by show 2 * 0 + _ ≤ _; exact Nat.le_of_eq rfl) (hb hby d7_228) (fun _ _ => ⟨rfl, e80, (by decide : 0 + 0 ≤ _), (by decide : 0 + 0 ≤ _)⟩)
      dsimp only [Pt.U, Pt.locs, Pt.cells, Pt.slots] at X97 l97 y97 z97 st97 hQ97
      subst l97 y97 z97
      obtain ⟨rfl, N97q, eh97⟩ := hQ97
      have N97 := Fr.app N80 N97q
      have k98 : own_Go p e below (s₁.setTop (entryFrame m #[(.ref r0), (.int p1), (.int p2)] 6)) (T97.setTop (mkF m 231 #[.val (.ref r0), .val (.int p1), .val (.int p2), .val (.int (v7_181 p1 p2 B0)), .val (.int (v7_217 p1 p2 B0)), .val (.int (v7_189 p1 p2 B0))] [(.int (f9 p1 (3 : Int32) B0)), (.int (v7_181 p1 p2 B0))])) := fun t k => k96 t (st97 t k)
      by_cases hc231_99 : (f9 p1 (3 : Int32) B0) = (0 : Int32)
      · have k100 : own_Go p e below (s₁.setTop (entryFrame m #[(.ref r0), (.int p1), (.int p2)] 6)) (T97.setTop (mkF m 239 #[.val (.ref r0), .val (.int p1), .val (.int p2), .val (.int (v7_181 p1 p2 B0)), .val (.int (v7_217 p1 p2 B0)), .val (.int (v7_189 p1 p2 B0))] [(.int (1 : Int32)), (.int (v7_181 p1 p2 B0))])) := by
          intro t k
          refine k98 t ?_
          show Steps p.tables e below (T97.setTop (mkF m 231 #[.val (.ref r0), .val (.int p1), .val (.int p2), .val (.int (v7_181 p1 p2 B0)), .val (.int (v7_217 p1 p2 B0)), .val (.int (v7_189 p1 p2 B0))] [(.int (f9 p1 (3 : Int32) B0)), (.int (v7_181 p1 p2 B0))])) t
          refine XS.ifNo X97.here hx rfl (hb hby d7_231) rfl ((if0 _ _).trans (teq hc231_99).2) ?_
          show Steps p.tables e below (T97.setTop (mkF m 234 #[.val (.ref r0), .val (.int p1), .val (.int p2), .val (.int (v7_181 p1 p2 B0)), .val (.int (v7_217 p1 p2 B0)), .val (.int (v7_189 p1 p2 B0))] [(.int (v7_181 p1 p2 B0))])) t
          refine XS.iconst X97.here hx rfl (hb hby d7_234) ?_
          show Steps p.tables e below (T97.setTop (mkF m 235 #[.val (.ref r0), .val (.int p1), .val (.int p2), .val (.int (v7_181 p1 p2 B0)), .val (.int (v7_217 p1 p2 B0)), .val (.int (v7_189 p1 p2 B0))] [(.int (1 : Int32)), (.int (v7_181 p1 p2 B0))])) t
          refine XS.goto X97.here hx rfl (pc0 := 235) (pc' := 239) rfl (hb hby d7_235) (by decide) (by decide) ?_
          exact k
        exact ⟨_, _, X97, eh97, N97, (by rw [show (m7_239_s0 p1 p2 B0) = (1 : Int32) from (by unfold m7_239_s0; rw [if_neg hc222_94, if_pos hc231_99])]; exact k100)⟩
      · have k101 : own_Go p e below (s₁.setTop (entryFrame m #[(.ref r0), (.int p1), (.int p2)] 6)) (T97.setTop (mkF m 239 #[.val (.ref r0), .val (.int p1), .val (.int p2), .val (.int (v7_181 p1 p2 B0)), .val (.int (v7_217 p1 p2 B0)), .val (.int (v7_189 p1 p2 B0))] [(.int (0 : Int32)), (.int (v7_181 p1 p2 B0))])) := by
          intro t k
          refine k98 t ?_
          show Steps p.tables e below (T97.setTop (mkF m 231 #[.val (.ref r0), .val (.int p1), .val (.int p2), .val (.int (v7_181 p1 p2 B0)), .val (.int (v7_217 p1 p2 B0)), .val (.int (v7_189 p1 p2 B0))] [(.int (f9 p1 (3 : Int32) B0)), (.int (v7_181 p1 p2 B0))])) t
          refine XS.ifYes X97.here hx rfl (pc0 := 231) (pc' := 238) rfl (hb hby d7_231) rfl ((if0 _ _).trans (feq hc231_99).2) (by decide) (by decide) ?_
          show Steps p.tables e below (T97.setTop (mkF m 238 #[.val (.ref r0), .val (.int p1), .val (.int p2), .val (.int (v7_181 p1 p2 B0)), .val (.int (v7_217 p1 p2 B0)), .val (.int (v7_189 p1 p2 B0))] [(.int (v7_181 p1 p2 B0))])) t
          refine XS.iconst X97.here hx rfl (hb hby d7_238) ?_
          exact k
        exact ⟨_, _, X97, eh97, N97, (by rw [show (m7_239_s0 p1 p2 B0) = (0 : Int32) from (by unfold m7_239_s0; rw [if_neg hc222_94, if_neg hc231_99])]; exact k101)⟩
  have k102 : own_Go p e below (s₁.setTop (entryFrame m #[(.ref r0), (.int p1), (.int p2)] 6)) (T93.setTop (mkF m 245 #[.val (.ref r0), .val (.int p1), .val (.int p2), .val (.int (v7_240 p1 p2 B0)), .val (.int (v7_217 p1 p2 B0)), .val (.int (v7_189 p1 p2 B0))] [(.int (4 : Int32)), (.int p2), (.int p1), (.ref r0)])) := by
    intro t k
    refine k93 t ?_
    show Steps p.tables e below (T93.setTop (mkF m 239 #[.val (.ref r0), .val (.int p1), .val (.int p2), .val (.int (v7_181 p1 p2 B0)), .val (.int (v7_217 p1 p2 B0)), .val (.int (v7_189 p1 p2 B0))] [(.int (m7_239_s0 p1 p2 B0)), (.int (v7_181 p1 p2 B0))])) t
    refine XS.ior X93.here hx rfl (hb hby d7_239) rfl ?_
    show Steps p.tables e below (T93.setTop (mkF m 240 #[.val (.ref r0), .val (.int p1), .val (.int p2), .val (.int (v7_181 p1 p2 B0)), .val (.int (v7_217 p1 p2 B0)), .val (.int (v7_189 p1 p2 B0))] [(.int ((v7_181 p1 p2 B0) ||| (m7_239_s0 p1 p2 B0)))])) t
    refine XS.istoreN X93.here hx rfl (hb hby d7_240) rfl (l' := #[.val (.ref r0), .val (.int p1), .val (.int p2), .val (.int (v7_240 p1 p2 B0)), .val (.int (v7_217 p1 p2 B0)), .val (.int (v7_189 p1 p2 B0))]) rfl ?_
    show Steps p.tables e below (T93.setTop (mkF m 241 #[.val (.ref r0), .val (.int p1), .val (.int p2), .val (.int (v7_240 p1 p2 B0)), .val (.int (v7_217 p1 p2 B0)), .val (.int (v7_189 p1 p2 B0))] [])) t
    refine XS.aloadN X93.here hx rfl (hb hby d7_241) rfl rfl ?_
    show Steps p.tables e below (T93.setTop (mkF m 242 #[.val (.ref r0), .val (.int p1), .val (.int p2), .val (.int (v7_240 p1 p2 B0)), .val (.int (v7_217 p1 p2 B0)), .val (.int (v7_189 p1 p2 B0))] [(.ref r0)])) t
    refine XS.iloadN X93.here hx rfl (hb hby d7_242) rfl ?_
    show Steps p.tables e below (T93.setTop (mkF m 243 #[.val (.ref r0), .val (.int p1), .val (.int p2), .val (.int (v7_240 p1 p2 B0)), .val (.int (v7_217 p1 p2 B0)), .val (.int (v7_189 p1 p2 B0))] [(.int p1), (.ref r0)])) t
    refine XS.iloadN X93.here hx rfl (hb hby d7_243) rfl ?_
    show Steps p.tables e below (T93.setTop (mkF m 244 #[.val (.ref r0), .val (.int p1), .val (.int p2), .val (.int (v7_240 p1 p2 B0)), .val (.int (v7_217 p1 p2 B0)), .val (.int (v7_189 p1 p2 B0))] [(.int p2), (.int p1), (.ref r0)])) t
    refine XS.iconst X93.here hx rfl (hb hby d7_244) ?_
    exact k
  obtain ⟨_, _, ⟨T103, L103, kk103, n103⟩, -, X103, ⟨Lc103, hQ103, l103, y103, z103⟩, st103⟩ := Jvm.LawKit.callS X93 hx (y := (⟨"com/example/dosewire/dosewire/server/net/EndEndsInPinLaw", "lfAt", "([BIII)Z"⟩ : MethodName)) hown (mvT hZ (hw _ (List.mem_of_getElem? (i := 36) rfl))) (mvT hZ (hw _ (List.mem_of_getElem? (i := 37) rfl))) (mvT hZ (hw _ (List.mem_of_getElem? (i := 3) rfl))) (mvT hZ (hw _ (List.mem_of_getElem? (i := 38) rfl))) (by decide) (backOf (W := 0) (rm8 l Z a0 hw [] r0 p1 p2 (4 : Int32) B0 h0 n0 Z0 V_r0 ⟨by decide, by decide⟩) hZ (hw _ (List.mem_of_getElem? (i := 38) rfl)) (hw _ (List.mem_of_getElem? (i := 3) rfl)) (by decide) (by decide)) (g := (mkF m 245 #[.val (.ref r0), .val (.int p1), .val (.int p2), .val (.int (v7_240 p1 p2 B0)), .val (.int (v7_217 p1 p2 B0)), .val (.int (v7_189 p1 p2 B0))] [(.int (4 : Int32)), (.int p2), (.int p1), (.ref r0)])) rfl (by rw [hml]; rfl) (argsL := [(.ref r0), (.int p1), (.int p2), (.int (4 : Int32))]) (rest := []) (lenOf pd_0 rfl) rfl (by show 2 * 0 + _ ≤ _; exact Nat.le_of_eq rfl) (hb hby d7_245) (fun _ _ => ⟨rfl, e93, (by decide : 0 + 0 ≤ _), (by decide : 0 + 0 ≤ _)⟩)
  dsimp only [Pt.U, Pt.locs, Pt.cells, Pt.slots] at X103 l103 y103 z103 st103 hQ103
  subst l103 y103 z103
  obtain ⟨rfl, N103q, eh103⟩ := hQ103
  have N103 := Fr.app N93 N103q
  have k104 : own_Go p e below (s₁.setTop (entryFrame m #[(.ref r0), (.int p1), (.int p2)] 6)) (T103.setTop (mkF m 248 #[.val (.ref r0), .val (.int p1), .val (.int p2), .val (.int (v7_240 p1 p2 B0)), .val (.int (v7_217 p1 p2 B0)), .val (.int (v7_189 p1 p2 B0))] [(.int (f8 p1 p2 (4 : Int32) B0))])) := fun t k => k102 t (st103 t k)
  have k105 : own_Go p e below (s₁.setTop (entryFrame m #[(.ref r0), (.int p1), (.int p2)] 6)) (T103.setTop (mkF m 254 #[.val (.ref r0), .val (.int p1), .val (.int p2), .val (.int (v7_240 p1 p2 B0)), .val (.int (v7_217 p1 p2 B0)), .val (.int (v7_248 p1 p2 B0))] [(.int (v7_248 p1 p2 B0)), (.int (v7_217 p1 p2 B0))])) := by
    intro t k
    refine k104 t ?_
    show Steps p.tables e below (T103.setTop (mkF m 248 #[.val (.ref r0), .val (.int p1), .val (.int p2), .val (.int (v7_240 p1 p2 B0)), .val (.int (v7_217 p1 p2 B0)), .val (.int (v7_189 p1 p2 B0))] [(.int (f8 p1 p2 (4 : Int32) B0))])) t
    refine XS.istore X103.here hx rfl (hb hby d7_248) rfl (l' := #[.val (.ref r0), .val (.int p1), .val (.int p2), .val (.int (v7_240 p1 p2 B0)), .val (.int (v7_217 p1 p2 B0)), .val (.int (v7_248 p1 p2 B0))]) rfl ?_
    show Steps p.tables e below (T103.setTop (mkF m 250 #[.val (.ref r0), .val (.int p1), .val (.int p2), .val (.int (v7_240 p1 p2 B0)), .val (.int (v7_217 p1 p2 B0)), .val (.int (v7_248 p1 p2 B0))] [])) t
    refine XS.iload X103.here hx rfl (hb hby d7_250) rfl ?_
    show Steps p.tables e below (T103.setTop (mkF m 252 #[.val (.ref r0), .val (.int p1), .val (.int p2), .val (.int (v7_240 p1 p2 B0)), .val (.int (v7_217 p1 p2 B0)), .val (.int (v7_248 p1 p2 B0))] [(.int (v7_217 p1 p2 B0))])) t
    refine XS.iload X103.here hx rfl (hb hby d7_252) rfl ?_
    exact k
  obtain ⟨T106, L106, X106, e106, N106, k106⟩ : ∃ (T106 : State) (L106 : List Loc), Stand p l e ({ frames := 1, cells := 0, slots := 0, locals := 15 } : Room) s m #[(.ref r0), (.int p1), (.int p2)] below meth c T106 L106 0 0 ∧ T106.heap = h0 ∧ Fr n0 L106 ∧ own_Go p e below (s₁.setTop (entryFrame m #[(.ref r0), (.int p1), (.int p2)] 6)) (T106.setTop (mkF m 275 #[.val (.ref r0), .val (.int p1), .val (.int p2), .val (.int (v7_240 p1 p2 B0)), .val (.int (v7_217 p1 p2 B0)), .val (.int (v7_248 p1 p2 B0))] [(.int (m7_275_s0 p1 p2 B0)), (.int (v7_217 p1 p2 B0))])) := by
    by_cases hc254_107 : (v7_248 p1 p2 B0) = (0 : Int32)
    · have k108 : own_Go p e below (s₁.setTop (entryFrame m #[(.ref r0), (.int p1), (.int p2)] 6)) (T103.setTop (mkF m 275 #[.val (.ref r0), .val (.int p1), .val (.int p2), .val (.int (v7_240 p1 p2 B0)), .val (.int (v7_217 p1 p2 B0)), .val (.int (v7_248 p1 p2 B0))] [(.int (0 : Int32)), (.int (v7_217 p1 p2 B0))])) := by
        intro t k
        refine k105 t ?_
        show Steps p.tables e below (T103.setTop (mkF m 254 #[.val (.ref r0), .val (.int p1), .val (.int p2), .val (.int (v7_240 p1 p2 B0)), .val (.int (v7_217 p1 p2 B0)), .val (.int (v7_248 p1 p2 B0))] [(.int (v7_248 p1 p2 B0)), (.int (v7_217 p1 p2 B0))])) t
        refine XS.ifYes X103.here hx rfl (pc0 := 254) (pc' := 274) rfl (hb hby d7_254) rfl ((if0 _ _).trans (teq hc254_107).1) (by decide) (by decide) ?_
        show Steps p.tables e below (T103.setTop (mkF m 274 #[.val (.ref r0), .val (.int p1), .val (.int p2), .val (.int (v7_240 p1 p2 B0)), .val (.int (v7_217 p1 p2 B0)), .val (.int (v7_248 p1 p2 B0))] [(.int (v7_217 p1 p2 B0))])) t
        refine XS.iconst X103.here hx rfl (hb hby d7_274) ?_
        exact k
      exact ⟨_, _, X103, eh103, N103, (by rw [show (m7_275_s0 p1 p2 B0) = (0 : Int32) from (by unfold m7_275_s0; rw [if_pos hc254_107])]; exact k108)⟩
    · have k109 : own_Go p e below (s₁.setTop (entryFrame m #[(.ref r0), (.int p1), (.int p2)] 6)) (T103.setTop (mkF m 260 #[.val (.ref r0), .val (.int p1), .val (.int p2), .val (.int (v7_240 p1 p2 B0)), .val (.int (v7_217 p1 p2 B0)), .val (.int (v7_248 p1 p2 B0))] [(.int (4 : Int32)), (.int p1), (.ref r0), (.int (v7_217 p1 p2 B0))])) := by
        intro t k
        refine k105 t ?_
        show Steps p.tables e below (T103.setTop (mkF m 254 #[.val (.ref r0), .val (.int p1), .val (.int p2), .val (.int (v7_240 p1 p2 B0)), .val (.int (v7_217 p1 p2 B0)), .val (.int (v7_248 p1 p2 B0))] [(.int (v7_248 p1 p2 B0)), (.int (v7_217 p1 p2 B0))])) t
        refine XS.ifNo X103.here hx rfl (hb hby d7_254) rfl ((if0 _ _).trans (feq hc254_107).1) ?_
        show Steps p.tables e below (T103.setTop (mkF m 257 #[.val (.ref r0), .val (.int p1), .val (.int p2), .val (.int (v7_240 p1 p2 B0)), .val (.int (v7_217 p1 p2 B0)), .val (.int (v7_248 p1 p2 B0))] [(.int (v7_217 p1 p2 B0))])) t
        refine XS.aloadN X103.here hx rfl (hb hby d7_257) rfl rfl ?_
        show Steps p.tables e below (T103.setTop (mkF m 258 #[.val (.ref r0), .val (.int p1), .val (.int p2), .val (.int (v7_240 p1 p2 B0)), .val (.int (v7_217 p1 p2 B0)), .val (.int (v7_248 p1 p2 B0))] [(.ref r0), (.int (v7_217 p1 p2 B0))])) t
        refine XS.iloadN X103.here hx rfl (hb hby d7_258) rfl ?_
        show Steps p.tables e below (T103.setTop (mkF m 259 #[.val (.ref r0), .val (.int p1), .val (.int p2), .val (.int (v7_240 p1 p2 B0)), .val (.int (v7_217 p1 p2 B0)), .val (.int (v7_248 p1 p2 B0))] [(.int p1), (.ref r0), (.int (v7_217 p1 p2 B0))])) t
        refine XS.iconst X103.here hx rfl (hb hby d7_259) ?_
        exact k
      obtain ⟨_, _, ⟨T110, L110, kk110, n110⟩, -, X110, ⟨Lc110, hQ110, l110, y110, z110⟩, st110⟩ := Jvm.LawKit.callS X103 hx (y := (⟨"com/example/dosewire/dosewire/server/net/EndEndsInPinLaw", "emptyLine", "([BII)Z"⟩ : MethodName)) hown (mvT hZ (hw _ (List.mem_of_getElem? (i := 39) rfl))) (mvT hZ (hw _ (List.mem_of_getElem? (i := 40) rfl))) (mvT hZ (hw _ (List.mem_of_getElem? (i := 3) rfl))) (mvT hZ (hw _ (List.mem_of_getElem? (i := 41) rfl))) (by decide) (backOf (W := 1) (rm9 l Z a0 hw [] r0 p1 (4 : Int32) B0 h0 n0 Z0 V_r0 (own_lf hlo (by decide) (by decide) hc254_107)) hZ (hw _ (List.mem_of_getElem? (i := 41) rfl)) (hw _ (List.mem_of_getElem? (i := 3) rfl)) (by decide) (by decide)) (g := (mkF m 260 #[.val (.ref r0), .val (.int p1), .val (.int p2), .val (.int (v7_240 p1 p2 B0)), .val (.int (v7_217 p1 p2 B0)), .val (.int (v7_248 p1 p2 B0))] [(.int (4 : Int32)), (.int p1), (.ref r0), (.int (v7_217 p1 p2 B0))])) rfl (by rw [hml]; rfl) (argsL := [(.ref r0), (.int p1), (.int (4 : Int32))]) (rest := [(.int (v7_217 p1 p2 B0))]) (lenOf pd_1 rfl) rfl (by show 2 * 0 + _ ≤ _; exact Nat.le_of_eq rfl) (hb hby d7_260) (fun _ _ => ⟨rfl, eh103, (by decide : 0 + 0 ≤ _), (by decide : 0 + 0 ≤ _)⟩)
      dsimp only [Pt.U, Pt.locs, Pt.cells, Pt.slots] at X110 l110 y110 z110 st110 hQ110
      subst l110 y110 z110
      obtain ⟨rfl, N110q, eh110⟩ := hQ110
      have N110 := Fr.app N103 N110q
      have k111 : own_Go p e below (s₁.setTop (entryFrame m #[(.ref r0), (.int p1), (.int p2)] 6)) (T110.setTop (mkF m 263 #[.val (.ref r0), .val (.int p1), .val (.int p2), .val (.int (v7_240 p1 p2 B0)), .val (.int (v7_217 p1 p2 B0)), .val (.int (v7_248 p1 p2 B0))] [(.int (f9 p1 (4 : Int32) B0)), (.int (v7_217 p1 p2 B0))])) := fun t k => k109 t (st110 t k)
      by_cases hc263_112 : (f9 p1 (4 : Int32) B0) = (0 : Int32)
      · have k113 : own_Go p e below (s₁.setTop (entryFrame m #[(.ref r0), (.int p1), (.int p2)] 6)) (T110.setTop (mkF m 275 #[.val (.ref r0), .val (.int p1), .val (.int p2), .val (.int (v7_240 p1 p2 B0)), .val (.int (v7_217 p1 p2 B0)), .val (.int (v7_248 p1 p2 B0))] [(.int (0 : Int32)), (.int (v7_217 p1 p2 B0))])) := by
          intro t k
          refine k111 t ?_
          show Steps p.tables e below (T110.setTop (mkF m 263 #[.val (.ref r0), .val (.int p1), .val (.int p2), .val (.int (v7_240 p1 p2 B0)), .val (.int (v7_217 p1 p2 B0)), .val (.int (v7_248 p1 p2 B0))] [(.int (f9 p1 (4 : Int32) B0)), (.int (v7_217 p1 p2 B0))])) t
          refine XS.ifYes X110.here hx rfl (pc0 := 263) (pc' := 274) rfl (hb hby d7_263) rfl ((if0 _ _).trans (teq hc263_112).1) (by decide) (by decide) ?_
          show Steps p.tables e below (T110.setTop (mkF m 274 #[.val (.ref r0), .val (.int p1), .val (.int p2), .val (.int (v7_240 p1 p2 B0)), .val (.int (v7_217 p1 p2 B0)), .val (.int (v7_248 p1 p2 B0))] [(.int (v7_217 p1 p2 B0))])) t
          refine XS.iconst X110.here hx rfl (hb hby d7_274) ?_
          exact k
        exact ⟨_, _, X110, eh110, N110, (by rw [show (m7_275_s0 p1 p2 B0) = (0 : Int32) from (by unfold m7_275_s0; rw [if_neg hc254_107, if_pos hc263_112])]; exact k113)⟩
      · have k114 : own_Go p e below (s₁.setTop (entryFrame m #[(.ref r0), (.int p1), (.int p2)] 6)) (T110.setTop (mkF m 267 #[.val (.ref r0), .val (.int p1), .val (.int p2), .val (.int (v7_240 p1 p2 B0)), .val (.int (v7_217 p1 p2 B0)), .val (.int (v7_248 p1 p2 B0))] [(.int (v7_240 p1 p2 B0)), (.int (v7_217 p1 p2 B0))])) := by
          intro t k
          refine k111 t ?_
          show Steps p.tables e below (T110.setTop (mkF m 263 #[.val (.ref r0), .val (.int p1), .val (.int p2), .val (.int (v7_240 p1 p2 B0)), .val (.int (v7_217 p1 p2 B0)), .val (.int (v7_248 p1 p2 B0))] [(.int (f9 p1 (4 : Int32) B0)), (.int (v7_217 p1 p2 B0))])) t
          refine XS.ifNo X110.here hx rfl (hb hby d7_263) rfl ((if0 _ _).trans (feq hc263_112).1) ?_
          show Steps p.tables e below (T110.setTop (mkF m 266 #[.val (.ref r0), .val (.int p1), .val (.int p2), .val (.int (v7_240 p1 p2 B0)), .val (.int (v7_217 p1 p2 B0)), .val (.int (v7_248 p1 p2 B0))] [(.int (v7_217 p1 p2 B0))])) t
          refine XS.iloadN X110.here hx rfl (hb hby d7_266) rfl ?_
          exact k
        by_cases hc267_115 : (v7_240 p1 p2 B0) = (0 : Int32)
        · have k116 : own_Go p e below (s₁.setTop (entryFrame m #[(.ref r0), (.int p1), (.int p2)] 6)) (T110.setTop (mkF m 275 #[.val (.ref r0), .val (.int p1), .val (.int p2), .val (.int (v7_240 p1 p2 B0)), .val (.int (v7_217 p1 p2 B0)), .val (.int (v7_248 p1 p2 B0))] [(.int (0 : Int32)), (.int (v7_217 p1 p2 B0))])) := by
            intro t k
            refine k114 t ?_
            show Steps p.tables e below (T110.setTop (mkF m 267 #[.val (.ref r0), .val (.int p1), .val (.int p2), .val (.int (v7_240 p1 p2 B0)), .val (.int (v7_217 p1 p2 B0)), .val (.int (v7_248 p1 p2 B0))] [(.int (v7_240 p1 p2 B0)), (.int (v7_217 p1 p2 B0))])) t
            refine XS.ifYes X110.here hx rfl (pc0 := 267) (pc' := 274) rfl (hb hby d7_267) rfl ((if0 _ _).trans (teq hc267_115).1) (by decide) (by decide) ?_
            show Steps p.tables e below (T110.setTop (mkF m 274 #[.val (.ref r0), .val (.int p1), .val (.int p2), .val (.int (v7_240 p1 p2 B0)), .val (.int (v7_217 p1 p2 B0)), .val (.int (v7_248 p1 p2 B0))] [(.int (v7_217 p1 p2 B0))])) t
            refine XS.iconst X110.here hx rfl (hb hby d7_274) ?_
            exact k
          exact ⟨_, _, X110, eh110, N110, (by rw [show (m7_275_s0 p1 p2 B0) = (0 : Int32) from (by unfold m7_275_s0; rw [if_neg hc254_107, if_neg hc263_112, if_pos hc267_115])]; exact k116)⟩
        · have k117 : own_Go p e below (s₁.setTop (entryFrame m #[(.ref r0), (.int p1), (.int p2)] 6)) (T110.setTop (mkF m 275 #[.val (.ref r0), .val (.int p1), .val (.int p2), .val (.int (v7_240 p1 p2 B0)), .val (.int (v7_217 p1 p2 B0)), .val (.int (v7_248 p1 p2 B0))] [(.int (1 : Int32)), (.int (v7_217 p1 p2 B0))])) := by
            intro t k
            refine k114 t ?_
            show Steps p.tables e below (T110.setTop (mkF m 267 #[.val (.ref r0), .val (.int p1), .val (.int p2), .val (.int (v7_240 p1 p2 B0)), .val (.int (v7_217 p1 p2 B0)), .val (.int (v7_248 p1 p2 B0))] [(.int (v7_240 p1 p2 B0)), (.int (v7_217 p1 p2 B0))])) t
            refine XS.ifNo X110.here hx rfl (hb hby d7_267) rfl ((if0 _ _).trans (feq hc267_115).1) ?_
            show Steps p.tables e below (T110.setTop (mkF m 270 #[.val (.ref r0), .val (.int p1), .val (.int p2), .val (.int (v7_240 p1 p2 B0)), .val (.int (v7_217 p1 p2 B0)), .val (.int (v7_248 p1 p2 B0))] [(.int (v7_217 p1 p2 B0))])) t
            refine XS.iconst X110.here hx rfl (hb hby d7_270) ?_
            show Steps p.tables e below (T110.setTop (mkF m 271 #[.val (.ref r0), .val (.int p1), .val (.int p2), .val (.int (v7_240 p1 p2 B0)), .val (.int (v7_217 p1 p2 B0)), .val (.int (v7_248 p1 p2 B0))] [(.int (1 : Int32)), (.int (v7_217 p1 p2 B0))])) t
            refine XS.goto X110.here hx rfl (pc0 := 271) (pc' := 275) rfl (hb hby d7_271) (by decide) (by decide) ?_
            exact k
          exact ⟨_, _, X110, eh110, N110, (by rw [show (m7_275_s0 p1 p2 B0) = (1 : Int32) from (by unfold m7_275_s0; rw [if_neg hc254_107, if_neg hc263_112, if_neg hc267_115])]; exact k117)⟩
  have k118 : own_Go p e below (s₁.setTop (entryFrame m #[(.ref r0), (.int p1), (.int p2)] 6)) (T106.setTop (mkF m 281 #[.val (.ref r0), .val (.int p1), .val (.int p2), .val (.int (v7_240 p1 p2 B0)), .val (.int (v7_276 p1 p2 B0)), .val (.int (v7_248 p1 p2 B0))] [(.int (v7_248 p1 p2 B0)), (.int (v7_240 p1 p2 B0))])) := by
    intro t k
    refine k106 t ?_
    show Steps p.tables e below (T106.setTop (mkF m 275 #[.val (.ref r0), .val (.int p1), .val (.int p2), .val (.int (v7_240 p1 p2 B0)), .val (.int (v7_217 p1 p2 B0)), .val (.int (v7_248 p1 p2 B0))] [(.int (m7_275_s0 p1 p2 B0)), (.int (v7_217 p1 p2 B0))])) t
    refine XS.ior X106.here hx rfl (hb hby d7_275) rfl ?_
    show Steps p.tables e below (T106.setTop (mkF m 276 #[.val (.ref r0), .val (.int p1), .val (.int p2), .val (.int (v7_240 p1 p2 B0)), .val (.int (v7_217 p1 p2 B0)), .val (.int (v7_248 p1 p2 B0))] [(.int ((v7_217 p1 p2 B0) ||| (m7_275_s0 p1 p2 B0)))])) t
    refine XS.istore X106.here hx rfl (hb hby d7_276) rfl (l' := #[.val (.ref r0), .val (.int p1), .val (.int p2), .val (.int (v7_240 p1 p2 B0)), .val (.int (v7_276 p1 p2 B0)), .val (.int (v7_248 p1 p2 B0))]) rfl ?_
    show Steps p.tables e below (T106.setTop (mkF m 278 #[.val (.ref r0), .val (.int p1), .val (.int p2), .val (.int (v7_240 p1 p2 B0)), .val (.int (v7_276 p1 p2 B0)), .val (.int (v7_248 p1 p2 B0))] [])) t
    refine XS.iloadN X106.here hx rfl (hb hby d7_278) rfl ?_
    show Steps p.tables e below (T106.setTop (mkF m 279 #[.val (.ref r0), .val (.int p1), .val (.int p2), .val (.int (v7_240 p1 p2 B0)), .val (.int (v7_276 p1 p2 B0)), .val (.int (v7_248 p1 p2 B0))] [(.int (v7_240 p1 p2 B0))])) t
    refine XS.iload X106.here hx rfl (hb hby d7_279) rfl ?_
    exact k
  obtain ⟨T119, L119, X119, e119, N119, k119⟩ : ∃ (T119 : State) (L119 : List Loc), Stand p l e ({ frames := 1, cells := 0, slots := 0, locals := 15 } : Room) s m #[(.ref r0), (.int p1), (.int p2)] below meth c T119 L119 0 0 ∧ T119.heap = h0 ∧ Fr n0 L119 ∧ own_Go p e below (s₁.setTop (entryFrame m #[(.ref r0), (.int p1), (.int p2)] 6)) (T119.setTop (mkF m 298 #[.val (.ref r0), .val (.int p1), .val (.int p2), .val (.int (v7_240 p1 p2 B0)), .val (.int (v7_276 p1 p2 B0)), .val (.int (v7_248 p1 p2 B0))] [(.int (m7_298_s0 p1 p2 B0)), (.int (v7_240 p1 p2 B0))])) := by
    by_cases hc281_120 : (v7_248 p1 p2 B0) = (0 : Int32)
    · have k121 : own_Go p e below (s₁.setTop (entryFrame m #[(.ref r0), (.int p1), (.int p2)] 6)) (T106.setTop (mkF m 298 #[.val (.ref r0), .val (.int p1), .val (.int p2), .val (.int (v7_240 p1 p2 B0)), .val (.int (v7_276 p1 p2 B0)), .val (.int (v7_248 p1 p2 B0))] [(.int (0 : Int32)), (.int (v7_240 p1 p2 B0))])) := by
        intro t k
        refine k118 t ?_
        show Steps p.tables e below (T106.setTop (mkF m 281 #[.val (.ref r0), .val (.int p1), .val (.int p2), .val (.int (v7_240 p1 p2 B0)), .val (.int (v7_276 p1 p2 B0)), .val (.int (v7_248 p1 p2 B0))] [(.int (v7_248 p1 p2 B0)), (.int (v7_240 p1 p2 B0))])) t
        refine XS.ifYes X106.here hx rfl (pc0 := 281) (pc' := 297) rfl (hb hby d7_281) rfl ((if0 _ _).trans (teq hc281_120).1) (by decide) (by decide) ?_
        show Steps p.tables e below (T106.setTop (mkF m 297 #[.val (.ref r0), .val (.int p1), .val (.int p2), .val (.int (v7_240 p1 p2 B0)), .val (.int (v7_276 p1 p2 B0)), .val (.int (v7_248 p1 p2 B0))] [(.int (v7_240 p1 p2 B0))])) t
        refine XS.iconst X106.here hx rfl (hb hby d7_297) ?_
        exact k
      exact ⟨_, _, X106, e106, N106, (by rw [show (m7_298_s0 p1 p2 B0) = (0 : Int32) from (by unfold m7_298_s0; rw [if_pos hc281_120])]; exact k121)⟩
    · have k122 : own_Go p e below (s₁.setTop (entryFrame m #[(.ref r0), (.int p1), (.int p2)] 6)) (T106.setTop (mkF m 287 #[.val (.ref r0), .val (.int p1), .val (.int p2), .val (.int (v7_240 p1 p2 B0)), .val (.int (v7_276 p1 p2 B0)), .val (.int (v7_248 p1 p2 B0))] [(.int (4 : Int32)), (.int p1), (.ref r0), (.int (v7_240 p1 p2 B0))])) := by
        intro t k
        refine k118 t ?_
        show Steps p.tables e below (T106.setTop (mkF m 281 #[.val (.ref r0), .val (.int p1), .val (.int p2), .val (.int (v7_240 p1 p2 B0)), .val (.int (v7_276 p1 p2 B0)), .val (.int (v7_248 p1 p2 B0))] [(.int (v7_248 p1 p2 B0)), (.int (v7_240 p1 p2 B0))])) t
        refine XS.ifNo X106.here hx rfl (hb hby d7_281) rfl ((if0 _ _).trans (feq hc281_120).1) ?_
        show Steps p.tables e below (T106.setTop (mkF m 284 #[.val (.ref r0), .val (.int p1), .val (.int p2), .val (.int (v7_240 p1 p2 B0)), .val (.int (v7_276 p1 p2 B0)), .val (.int (v7_248 p1 p2 B0))] [(.int (v7_240 p1 p2 B0))])) t
        refine XS.aloadN X106.here hx rfl (hb hby d7_284) rfl rfl ?_
        show Steps p.tables e below (T106.setTop (mkF m 285 #[.val (.ref r0), .val (.int p1), .val (.int p2), .val (.int (v7_240 p1 p2 B0)), .val (.int (v7_276 p1 p2 B0)), .val (.int (v7_248 p1 p2 B0))] [(.ref r0), (.int (v7_240 p1 p2 B0))])) t
        refine XS.iloadN X106.here hx rfl (hb hby d7_285) rfl ?_
        show Steps p.tables e below (T106.setTop (mkF m 286 #[.val (.ref r0), .val (.int p1), .val (.int p2), .val (.int (v7_240 p1 p2 B0)), .val (.int (v7_276 p1 p2 B0)), .val (.int (v7_248 p1 p2 B0))] [(.int p1), (.ref r0), (.int (v7_240 p1 p2 B0))])) t
        refine XS.iconst X106.here hx rfl (hb hby d7_286) ?_
        exact k
      obtain ⟨_, _, ⟨T123, L123, kk123, n123⟩, -, X123, ⟨Lc123, hQ123, l123, y123, z123⟩, st123⟩ := Jvm.LawKit.callS X106 hx (y := (⟨"com/example/dosewire/dosewire/server/net/EndEndsInPinLaw", "emptyLine", "([BII)Z"⟩ : MethodName)) hown (mvT hZ (hw _ (List.mem_of_getElem? (i := 39) rfl))) (mvT hZ (hw _ (List.mem_of_getElem? (i := 40) rfl))) (mvT hZ (hw _ (List.mem_of_getElem? (i := 3) rfl))) (mvT hZ (hw _ (List.mem_of_getElem? (i := 41) rfl))) (by decide) (backOf (W := 1) (rm9 l Z a0 hw [] r0 p1 (4 : Int32) B0 h0 n0 Z0 V_r0 (own_lf hlo (by decide) (by decide) hc281_120)) hZ (hw _ (List.mem_of_getElem? (i := 41) rfl)) (hw _ (List.mem_of_getElem? (i := 3) rfl)) (by decide) (by decide)) (g := (mkF m 287 #[.val (.ref r0), .val (.int p1), .val (.int p2), .val (.int (v7_240 p1 p2 B0)), .val (.int (v7_276 p1 p2 B0)), .val (.int (v7_248 p1 p2 B0))] [(.int (4 : Int32)), (.int p1), (.ref r0), (.int (v7_240 p1 p2 B0))])) rfl (by rw [hml]; rfl) (argsL := [(.ref r0), (.int p1), (.int (4 : Int32))]) (rest := [(.int (v7_240 p1 p2 B0))]) (lenOf pd_1 rfl) rfl (by show 2 * 0 + _ ≤ _; exact Nat.le_of_eq rfl) (hb hby d7_287) (fun _ _ => ⟨rfl, e106, (by decide : 0 + 0 ≤ _), (by decide : 0 + 0 ≤ _)⟩)
      dsimp only [Pt.U, Pt.locs, Pt.cells, Pt.slots] at X123 l123 y123 z123 st123 hQ123
      subst l123 y123 z123
      obtain ⟨rfl, N123q, eh123⟩ := hQ123
      have N123 := Fr.app N106 N123q
      have k124 : own_Go p e below (s₁.setTop (entryFrame m #[(.ref r0), (.int p1), (.int p2)] 6)) (T123.setTop (mkF m 290 #[.val (.ref r0), .val (.int p1), .val (.int p2), .val (.int (v7_240 p1 p2 B0)), .val (.int (v7_276 p1 p2 B0)), .val (.int (v7_248 p1 p2 B0))] [(.int (f9 p1 (4 : Int32) B0)), (.int (v7_240 p1 p2 B0))])) := fun t k => k122 t (st123 t k)
      by_cases hc290_125 : (f9 p1 (4 : Int32) B0) = (0 : Int32)
      · have k126 : own_Go p e below (s₁.setTop (entryFrame m #[(.ref r0), (.int p1), (.int p2)] 6)) (T123.setTop (mkF m 298 #[.val (.ref r0), .val (.int p1), .val (.int p2), .val (.int (v7_240 p1 p2 B0)), .val (.int (v7_276 p1 p2 B0)), .val (.int (v7_248 p1 p2 B0))] [(.int (1 : Int32)), (.int (v7_240 p1 p2 B0))])) := by
          intro t k
          refine k124 t ?_
          show Steps p.tables e below (T123.setTop (mkF m 290 #[.val (.ref r0), .val (.int p1), .val (.int p2), .val (.int (v7_240 p1 p2 B0)), .val (.int (v7_276 p1 p2 B0)), .val (.int (v7_248 p1 p2 B0))] [(.int (f9 p1 (4 : Int32) B0)), (.int (v7_240 p1 p2 B0))])) t
          refine XS.ifNo X123.here hx rfl (hb hby d7_290) rfl ((if0 _ _).trans (teq hc290_125).2) ?_
          show Steps p.tables e below (T123.setTop (mkF m 293 #[.val (.ref r0), .val (.int p1), .val (.int p2), .val (.int (v7_240 p1 p2 B0)), .val (.int (v7_276 p1 p2 B0)), .val (.int (v7_248 p1 p2 B0))] [(.int (v7_240 p1 p2 B0))])) t
          refine XS.iconst X123.here hx rfl (hb hby d7_293) ?_
          show Steps p.tables e below (T123.setTop (mkF m 294 #[.val (.ref r0), .val (.int p1), .val (.int p2), .val (.int (v7_240 p1 p2 B0)), .val (.int (v7_276 p1 p2 B0)), .val (.int (v7_248 p1 p2 B0))] [(.int (1 : Int32)), (.int (v7_240 p1 p2 B0))])) t
          refine XS.goto X123.here hx rfl (pc0 := 294) (pc' := 298) rfl (hb hby d7_294) (by decide) (by decide) ?_
          exact k
        exact ⟨_, _, X123, eh123, N123, (by rw [show (m7_298_s0 p1 p2 B0) = (1 : Int32) from (by unfold m7_298_s0; rw [if_neg hc281_120, if_pos hc290_125])]; exact k126)⟩
      · have k127 : own_Go p e below (s₁.setTop (entryFrame m #[(.ref r0), (.int p1), (.int p2)] 6)) (T123.setTop (mkF m 298 #[.val (.ref r0), .val (.int p1), .val (.int p2), .val (.int (v7_240 p1 p2 B0)), .val (.int (v7_276 p1 p2 B0)), .val (.int (v7_248 p1 p2 B0))] [(.int (0 : Int32)), (.int (v7_240 p1 p2 B0))])) := by
          intro t k
          refine k124 t ?_
          show Steps p.tables e below (T123.setTop (mkF m 290 #[.val (.ref r0), .val (.int p1), .val (.int p2), .val (.int (v7_240 p1 p2 B0)), .val (.int (v7_276 p1 p2 B0)), .val (.int (v7_248 p1 p2 B0))] [(.int (f9 p1 (4 : Int32) B0)), (.int (v7_240 p1 p2 B0))])) t
          refine XS.ifYes X123.here hx rfl (pc0 := 290) (pc' := 297) rfl (hb hby d7_290) rfl ((if0 _ _).trans (feq hc290_125).2) (by decide) (by decide) ?_
          show Steps p.tables e below (T123.setTop (mkF m 297 #[.val (.ref r0), .val (.int p1), .val (.int p2), .val (.int (v7_240 p1 p2 B0)), .val (.int (v7_276 p1 p2 B0)), .val (.int (v7_248 p1 p2 B0))] [(.int (v7_240 p1 p2 B0))])) t
          refine XS.iconst X123.here hx rfl (hb hby d7_297) ?_
          exact k
        exact ⟨_, _, X123, eh123, N123, (by rw [show (m7_298_s0 p1 p2 B0) = (0 : Int32) from (by unfold m7_298_s0; rw [if_neg hc281_120, if_neg hc290_125])]; exact k127)⟩
  have k128 : own_Go p e below (s₁.setTop (entryFrame m #[(.ref r0), (.int p1), (.int p2)] 6)) (T119.setTop (mkF m 304 #[.val (.ref r0), .val (.int p1), .val (.int p2), .val (.int (v7_299 p1 p2 B0)), .val (.int (v7_276 p1 p2 B0)), .val (.int (v7_248 p1 p2 B0))] [(.int (5 : Int32)), (.int p2), (.int p1), (.ref r0)])) := by
    intro t k
    refine k119 t ?_
    show Steps p.tables e below (T119.setTop (mkF m 298 #[.val (.ref r0), .val (.int p1), .val (.int p2), .val (.int (v7_240 p1 p2 B0)), .val (.int (v7_276 p1 p2 B0)), .val (.int (v7_248 p1 p2 B0))] [(.int (m7_298_s0 p1 p2 B0)), (.int (v7_240 p1 p2 B0))])) t
    refine XS.ior X119.here hx rfl (hb hby d7_298) rfl ?_
    show Steps p.tables e below (T119.setTop (mkF m 299 #[.val (.ref r0), .val (.int p1), .val (.int p2), .val (.int (v7_240 p1 p2 B0)), .val (.int (v7_276 p1 p2 B0)), .val (.int (v7_248 p1 p2 B0))] [(.int ((v7_240 p1 p2 B0) ||| (m7_298_s0 p1 p2 B0)))])) t
    refine XS.istoreN X119.here hx rfl (hb hby d7_299) rfl (l' := #[.val (.ref r0), .val (.int p1), .val (.int p2), .val (.int (v7_299 p1 p2 B0)), .val (.int (v7_276 p1 p2 B0)), .val (.int (v7_248 p1 p2 B0))]) rfl ?_
    show Steps p.tables e below (T119.setTop (mkF m 300 #[.val (.ref r0), .val (.int p1), .val (.int p2), .val (.int (v7_299 p1 p2 B0)), .val (.int (v7_276 p1 p2 B0)), .val (.int (v7_248 p1 p2 B0))] [])) t
    refine XS.aloadN X119.here hx rfl (hb hby d7_300) rfl rfl ?_
    show Steps p.tables e below (T119.setTop (mkF m 301 #[.val (.ref r0), .val (.int p1), .val (.int p2), .val (.int (v7_299 p1 p2 B0)), .val (.int (v7_276 p1 p2 B0)), .val (.int (v7_248 p1 p2 B0))] [(.ref r0)])) t
    refine XS.iloadN X119.here hx rfl (hb hby d7_301) rfl ?_
    show Steps p.tables e below (T119.setTop (mkF m 302 #[.val (.ref r0), .val (.int p1), .val (.int p2), .val (.int (v7_299 p1 p2 B0)), .val (.int (v7_276 p1 p2 B0)), .val (.int (v7_248 p1 p2 B0))] [(.int p1), (.ref r0)])) t
    refine XS.iloadN X119.here hx rfl (hb hby d7_302) rfl ?_
    show Steps p.tables e below (T119.setTop (mkF m 303 #[.val (.ref r0), .val (.int p1), .val (.int p2), .val (.int (v7_299 p1 p2 B0)), .val (.int (v7_276 p1 p2 B0)), .val (.int (v7_248 p1 p2 B0))] [(.int p2), (.int p1), (.ref r0)])) t
    refine XS.iconst X119.here hx rfl (hb hby d7_303) ?_
    exact k
  obtain ⟨_, _, ⟨T129, L129, kk129, n129⟩, -, X129, ⟨Lc129, hQ129, l129, y129, z129⟩, st129⟩ := Jvm.LawKit.callS X119 hx (y := (⟨"com/example/dosewire/dosewire/server/net/EndEndsInPinLaw", "lfAt", "([BIII)Z"⟩ : MethodName)) hown (mvT hZ (hw _ (List.mem_of_getElem? (i := 36) rfl))) (mvT hZ (hw _ (List.mem_of_getElem? (i := 37) rfl))) (mvT hZ (hw _ (List.mem_of_getElem? (i := 3) rfl))) (mvT hZ (hw _ (List.mem_of_getElem? (i := 38) rfl))) (by decide) (backOf (W := 0) (rm8 l Z a0 hw [] r0 p1 p2 (5 : Int32) B0 h0 n0 Z0 V_r0 ⟨by decide, by decide⟩) hZ (hw _ (List.mem_of_getElem? (i := 38) rfl)) (hw _ (List.mem_of_getElem? (i := 3) rfl)) (by decide) (by decide)) (g := (mkF m 304 #[.val (.ref r0), .val (.int p1), .val (.int p2), .val (.int (v7_299 p1 p2 B0)), .val (.int (v7_276 p1 p2 B0)), .val (.int (v7_248 p1 p2 B0))] [(.int (5 : Int32)), (.int p2), (.int p1), (.ref r0)])) rfl (by rw [hml]; rfl) (argsL := [(.ref r0), (.int p1), (.int p2), (.int (5 : Int32))]) (rest := []) (lenOf pd_0 rfl) rfl (by show 2 * 0 + _ ≤ _; exact Nat.le_of_eq rfl) (hb hby d7_304) (fun _ _ => ⟨rfl, e119, (by decide : 0 + 0 ≤ _), (by decide : 0 + 0 ≤ _)⟩)
  dsimp only [Pt.U, Pt.locs, Pt.cells, Pt.slots] at X129 l129 y129 z129 st129 hQ129
  subst l129 y129 z129
  obtain ⟨rfl, N129q, eh129⟩ := hQ129
  have N129 := Fr.app N119 N129q
  have k130 : own_Go p e below (s₁.setTop (entryFrame m #[(.ref r0), (.int p1), (.int p2)] 6)) (T129.setTop (mkF m 307 #[.val (.ref r0), .val (.int p1), .val (.int p2), .val (.int (v7_299 p1 p2 B0)), .val (.int (v7_276 p1 p2 B0)), .val (.int (v7_248 p1 p2 B0))] [(.int (f8 p1 p2 (5 : Int32) B0))])) := fun t k => k128 t (st129 t k)
  have k131 : own_Go p e below (s₁.setTop (entryFrame m #[(.ref r0), (.int p1), (.int p2)] 6)) (T129.setTop (mkF m 313 #[.val (.ref r0), .val (.int p1), .val (.int p2), .val (.int (v7_299 p1 p2 B0)), .val (.int (v7_276 p1 p2 B0)), .val (.int (v7_307 p1 p2 B0))] [(.int (v7_307 p1 p2 B0)), (.int (v7_276 p1 p2 B0))])) := by
    intro t k
    refine k130 t ?_
    show Steps p.tables e below (T129.setTop (mkF m 307 #[.val (.ref r0), .val (.int p1), .val (.int p2), .val (.int (v7_299 p1 p2 B0)), .val (.int (v7_276 p1 p2 B0)), .val (.int (v7_248 p1 p2 B0))] [(.int (f8 p1 p2 (5 : Int32) B0))])) t
    refine XS.istore X129.here hx rfl (hb hby d7_307) rfl (l' := #[.val (.ref r0), .val (.int p1), .val (.int p2), .val (.int (v7_299 p1 p2 B0)), .val (.int (v7_276 p1 p2 B0)), .val (.int (v7_307 p1 p2 B0))]) rfl ?_
    show Steps p.tables e below (T129.setTop (mkF m 309 #[.val (.ref r0), .val (.int p1), .val (.int p2), .val (.int (v7_299 p1 p2 B0)), .val (.int (v7_276 p1 p2 B0)), .val (.int (v7_307 p1 p2 B0))] [])) t
    refine XS.iload X129.here hx rfl (hb hby d7_309) rfl ?_
    show Steps p.tables e below (T129.setTop (mkF m 311 #[.val (.ref r0), .val (.int p1), .val (.int p2), .val (.int (v7_299 p1 p2 B0)), .val (.int (v7_276 p1 p2 B0)), .val (.int (v7_307 p1 p2 B0))] [(.int (v7_276 p1 p2 B0))])) t
    refine XS.iload X129.here hx rfl (hb hby d7_311) rfl ?_
    exact k
  obtain ⟨T132, L132, X132, e132, N132, k132⟩ : ∃ (T132 : State) (L132 : List Loc), Stand p l e ({ frames := 1, cells := 0, slots := 0, locals := 15 } : Room) s m #[(.ref r0), (.int p1), (.int p2)] below meth c T132 L132 0 0 ∧ T132.heap = h0 ∧ Fr n0 L132 ∧ own_Go p e below (s₁.setTop (entryFrame m #[(.ref r0), (.int p1), (.int p2)] 6)) (T132.setTop (mkF m 334 #[.val (.ref r0), .val (.int p1), .val (.int p2), .val (.int (v7_299 p1 p2 B0)), .val (.int (v7_276 p1 p2 B0)), .val (.int (v7_307 p1 p2 B0))] [(.int (m7_334_s0 p1 p2 B0)), (.int (v7_276 p1 p2 B0))])) := by
    by_cases hc313_133 : (v7_307 p1 p2 B0) = (0 : Int32)
    · have k134 : own_Go p e below (s₁.setTop (entryFrame m #[(.ref r0), (.int p1), (.int p2)] 6)) (T129.setTop (mkF m 334 #[.val (.ref r0), .val (.int p1), .val (.int p2), .val (.int (v7_299 p1 p2 B0)), .val (.int (v7_276 p1 p2 B0)), .val (.int (v7_307 p1 p2 B0))] [(.int (0 : Int32)), (.int (v7_276 p1 p2 B0))])) := by
        intro t k
        refine k131 t ?_
        show Steps p.tables e below (T129.setTop (mkF m 313 #[.val (.ref r0), .val (.int p1), .val (.int p2), .val (.int (v7_299 p1 p2 B0)), .val (.int (v7_276 p1 p2 B0)), .val (.int (v7_307 p1 p2 B0))] [(.int (v7_307 p1 p2 B0)), (.int (v7_276 p1 p2 B0))])) t
        refine XS.ifYes X129.here hx rfl (pc0 := 313) (pc' := 333) rfl (hb hby d7_313) rfl ((if0 _ _).trans (teq hc313_133).1) (by decide) (by decide) ?_
        show Steps p.tables e below (T129.setTop (mkF m 333 #[.val (.ref r0), .val (.int p1), .val (.int p2), .val (.int (v7_299 p1 p2 B0)), .val (.int (v7_276 p1 p2 B0)), .val (.int (v7_307 p1 p2 B0))] [(.int (v7_276 p1 p2 B0))])) t
        refine XS.iconst X129.here hx rfl (hb hby d7_333) ?_
        exact k
      exact ⟨_, _, X129, eh129, N129, (by rw [show (m7_334_s0 p1 p2 B0) = (0 : Int32) from (by unfold m7_334_s0; rw [if_pos hc313_133])]; exact k134)⟩
    · have k135 : own_Go p e below (s₁.setTop (entryFrame m #[(.ref r0), (.int p1), (.int p2)] 6)) (T129.setTop (mkF m 319 #[.val (.ref r0), .val (.int p1), .val (.int p2), .val (.int (v7_299 p1 p2 B0)), .val (.int (v7_276 p1 p2 B0)), .val (.int (v7_307 p1 p2 B0))] [(.int (5 : Int32)), (.int p1), (.ref r0), (.int (v7_276 p1 p2 B0))])) := by
        intro t k
        refine k131 t ?_
        show Steps p.tables e below (T129.setTop (mkF m 313 #[.val (.ref r0), .val (.int p1), .val (.int p2), .val (.int (v7_299 p1 p2 B0)), .val (.int (v7_276 p1 p2 B0)), .val (.int (v7_307 p1 p2 B0))] [(.int (v7_307 p1 p2 B0)), (.int (v7_276 p1 p2 B0))])) t
        refine XS.ifNo X129.here hx rfl (hb hby d7_313) rfl ((if0 _ _).trans (feq hc313_133).1) ?_
        show Steps p.tables e below (T129.setTop (mkF m 316 #[.val (.ref r0), .val (.int p1), .val (.int p2), .val (.int (v7_299 p1 p2 B0)), .val (.int (v7_276 p1 p2 B0)), .val (.int (v7_307 p1 p2 B0))] [(.int (v7_276 p1 p2 B0))])) t
        refine XS.aloadN X129.here hx rfl (hb hby d7_316) rfl rfl ?_
        show Steps p.tables e below (T129.setTop (mkF m 317 #[.val (.ref r0), .val (.int p1), .val (.int p2), .val (.int (v7_299 p1 p2 B0)), .val (.int (v7_276 p1 p2 B0)), .val (.int (v7_307 p1 p2 B0))] [(.ref r0), (.int (v7_276 p1 p2 B0))])) t
        refine XS.iloadN X129.here hx rfl (hb hby d7_317) rfl ?_
        show Steps p.tables e below (T129.setTop (mkF m 318 #[.val (.ref r0), .val (.int p1), .val (.int p2), .val (.int (v7_299 p1 p2 B0)), .val (.int (v7_276 p1 p2 B0)), .val (.int (v7_307 p1 p2 B0))] [(.int p1), (.ref r0), (.int (v7_276 p1 p2 B0))])) t
        refine XS.iconst X129.here hx rfl (hb hby d7_318) ?_
        exact k
      obtain ⟨_, _, ⟨T136, L136, kk136, n136⟩, -, X136, ⟨Lc136, hQ136, l136, y136, z136⟩, st136⟩ := Jvm.LawKit.callS X129 hx (y := (⟨"com/example/dosewire/dosewire/server/net/EndEndsInPinLaw", "emptyLine", "([BII)Z"⟩ : MethodName)) hown (mvT hZ (hw _ (List.mem_of_getElem? (i := 39) rfl))) (mvT hZ (hw _ (List.mem_of_getElem? (i := 40) rfl))) (mvT hZ (hw _ (List.mem_of_getElem? (i := 3) rfl))) (mvT hZ (hw _ (List.mem_of_getElem? (i := 41) rfl))) (by decide) (backOf (W := 1) (rm9 l Z a0 hw [] r0 p1 (5 : Int32) B0 h0 n0 Z0 V_r0 (own_lf hlo (by decide) (by decide) hc313_133)) hZ (hw _ (List.mem_of_getElem? (i := 41) rfl)) (hw _ (List.mem_of_getElem? (i := 3) rfl)) (by decide) (by decide)) (g := (mkF m 319 #[.val (.ref r0), .val (.int p1), .val (.int p2), .val (.int (v7_299 p1 p2 B0)), .val (.int (v7_276 p1 p2 B0)), .val (.int (v7_307 p1 p2 B0))] [(.int (5 : Int32)), (.int p1), (.ref r0), (.int (v7_276 p1 p2 B0))])) rfl (by rw [hml]; rfl) (argsL := [(.ref r0), (.int p1), (.int (5 : Int32))]) (rest := [(.int (v7_276 p1 p2 B0))]) (lenOf pd_1 rfl) rfl (by show 2 * 0 + _ ≤ _; exact Nat.le_of_eq rfl) (hb hby d7_319) (fun _ _ => ⟨rfl, eh129, (by decide : 0 + 0 ≤ _), (by decide : 0 + 0 ≤ _)⟩)
      dsimp only [Pt.U, Pt.locs, Pt.cells, Pt.slots] at X136 l136 y136 z136 st136 hQ136
      subst l136 y136 z136
      obtain ⟨rfl, N136q, eh136⟩ := hQ136
      have N136 := Fr.app N129 N136q
      have k137 : own_Go p e below (s₁.setTop (entryFrame m #[(.ref r0), (.int p1), (.int p2)] 6)) (T136.setTop (mkF m 322 #[.val (.ref r0), .val (.int p1), .val (.int p2), .val (.int (v7_299 p1 p2 B0)), .val (.int (v7_276 p1 p2 B0)), .val (.int (v7_307 p1 p2 B0))] [(.int (f9 p1 (5 : Int32) B0)), (.int (v7_276 p1 p2 B0))])) := fun t k => k135 t (st136 t k)
      by_cases hc322_138 : (f9 p1 (5 : Int32) B0) = (0 : Int32)
      · have k139 : own_Go p e below (s₁.setTop (entryFrame m #[(.ref r0), (.int p1), (.int p2)] 6)) (T136.setTop (mkF m 334 #[.val (.ref r0), .val (.int p1), .val (.int p2), .val (.int (v7_299 p1 p2 B0)), .val (.int (v7_276 p1 p2 B0)), .val (.int (v7_307 p1 p2 B0))] [(.int (0 : Int32)), (.int (v7_276 p1 p2 B0))])) := by
          intro t k
          refine k137 t ?_
          show Steps p.tables e below (T136.setTop (mkF m 322 #[.val (.ref r0), .val (.int p1), .val (.int p2), .val (.int (v7_299 p1 p2 B0)), .val (.int (v7_276 p1 p2 B0)), .val (.int (v7_307 p1 p2 B0))] [(.int (f9 p1 (5 : Int32) B0)), (.int (v7_276 p1 p2 B0))])) t
          refine XS.ifYes X136.here hx rfl (pc0 := 322) (pc' := 333) rfl (hb hby d7_322) rfl ((if0 _ _).trans (teq hc322_138).1) (by decide) (by decide) ?_
          show Steps p.tables e below (T136.setTop (mkF m 333 #[.val (.ref r0), .val (.int p1), .val (.int p2), .val (.int (v7_299 p1 p2 B0)), .val (.int (v7_276 p1 p2 B0)), .val (.int (v7_307 p1 p2 B0))] [(.int (v7_276 p1 p2 B0))])) t
          refine XS.iconst X136.here hx rfl (hb hby d7_333) ?_
          exact k
        exact ⟨_, _, X136, eh136, N136, (by rw [show (m7_334_s0 p1 p2 B0) = (0 : Int32) from (by unfold m7_334_s0; rw [if_neg hc313_133, if_pos hc322_138])]; exact k139)⟩
      · have k140 : own_Go p e below (s₁.setTop (entryFrame m #[(.ref r0), (.int p1), (.int p2)] 6)) (T136.setTop (mkF m 326 #[.val (.ref r0), .val (.int p1), .val (.int p2), .val (.int (v7_299 p1 p2 B0)), .val (.int (v7_276 p1 p2 B0)), .val (.int (v7_307 p1 p2 B0))] [(.int (v7_299 p1 p2 B0)), (.int (v7_276 p1 p2 B0))])) := by
          intro t k
          refine k137 t ?_
          show Steps p.tables e below (T136.setTop (mkF m 322 #[.val (.ref r0), .val (.int p1), .val (.int p2), .val (.int (v7_299 p1 p2 B0)), .val (.int (v7_276 p1 p2 B0)), .val (.int (v7_307 p1 p2 B0))] [(.int (f9 p1 (5 : Int32) B0)), (.int (v7_276 p1 p2 B0))])) t
          refine XS.ifNo X136.here hx rfl (hb hby d7_322) rfl ((if0 _ _).trans (feq hc322_138).1) ?_
          show Steps p.tables e below (T136.setTop (mkF m 325 #[.val (.ref r0), .val (.int p1), .val (.int p2), .val (.int (v7_299 p1 p2 B0)), .val (.int (v7_276 p1 p2 B0)), .val (.int (v7_307 p1 p2 B0))] [(.int (v7_276 p1 p2 B0))])) t
          refine XS.iloadN X136.here hx rfl (hb hby d7_325) rfl ?_
          exact k
        by_cases hc326_141 : (v7_299 p1 p2 B0) = (0 : Int32)
        · have k142 : own_Go p e below (s₁.setTop (entryFrame m #[(.ref r0), (.int p1), (.int p2)] 6)) (T136.setTop (mkF m 334 #[.val (.ref r0), .val (.int p1), .val (.int p2), .val (.int (v7_299 p1 p2 B0)), .val (.int (v7_276 p1 p2 B0)), .val (.int (v7_307 p1 p2 B0))] [(.int (0 : Int32)), (.int (v7_276 p1 p2 B0))])) := by
            intro t k
            refine k140 t ?_
            show Steps p.tables e below (T136.setTop (mkF m 326 #[.val (.ref r0), .val (.int p1), .val (.int p2), .val (.int (v7_299 p1 p2 B0)), .val (.int (v7_276 p1 p2 B0)), .val (.int (v7_307 p1 p2 B0))] [(.int (v7_299 p1 p2 B0)), (.int (v7_276 p1 p2 B0))])) t
            refine XS.ifYes X136.here hx rfl (pc0 := 326) (pc' := 333) rfl (hb hby d7_326) rfl ((if0 _ _).trans (teq hc326_141).1) (by decide) (by decide) ?_
            show Steps p.tables e below (T136.setTop (mkF m 333 #[.val (.ref r0), .val (.int p1), .val (.int p2), .val (.int (v7_299 p1 p2 B0)), .val (.int (v7_276 p1 p2 B0)), .val (.int (v7_307 p1 p2 B0))] [(.int (v7_276 p1 p2 B0))])) t
            refine XS.iconst X136.here hx rfl (hb hby d7_333) ?_
            exact k
          exact ⟨_, _, X136, eh136, N136, (by rw [show (m7_334_s0 p1 p2 B0) = (0 : Int32) from (by unfold m7_334_s0; rw [if_neg hc313_133, if_neg hc322_138, if_pos hc326_141])]; exact k142)⟩
        · have k143 : own_Go p e below (s₁.setTop (entryFrame m #[(.ref r0), (.int p1), (.int p2)] 6)) (T136.setTop (mkF m 334 #[.val (.ref r0), .val (.int p1), .val (.int p2), .val (.int (v7_299 p1 p2 B0)), .val (.int (v7_276 p1 p2 B0)), .val (.int (v7_307 p1 p2 B0))] [(.int (1 : Int32)), (.int (v7_276 p1 p2 B0))])) := by
            intro t k
            refine k140 t ?_
            show Steps p.tables e below (T136.setTop (mkF m 326 #[.val (.ref r0), .val (.int p1), .val (.int p2), .val (.int (v7_299 p1 p2 B0)), .val (.int (v7_276 p1 p2 B0)), .val (.int (v7_307 p1 p2 B0))] [(.int (v7_299 p1 p2 B0)), (.int (v7_276 p1 p2 B0))])) t
            refine XS.ifNo X136.here hx rfl (hb hby d7_326) rfl ((if0 _ _).trans (feq hc326_141).1) ?_
            show Steps p.tables e below (T136.setTop (mkF m 329 #[.val (.ref r0), .val (.int p1), .val (.int p2), .val (.int (v7_299 p1 p2 B0)), .val (.int (v7_276 p1 p2 B0)), .val (.int (v7_307 p1 p2 B0))] [(.int (v7_276 p1 p2 B0))])) t
            refine XS.iconst X136.here hx rfl (hb hby d7_329) ?_
            show Steps p.tables e below (T136.setTop (mkF m 330 #[.val (.ref r0), .val (.int p1), .val (.int p2), .val (.int (v7_299 p1 p2 B0)), .val (.int (v7_276 p1 p2 B0)), .val (.int (v7_307 p1 p2 B0))] [(.int (1 : Int32)), (.int (v7_276 p1 p2 B0))])) t
            refine XS.goto X136.here hx rfl (pc0 := 330) (pc' := 334) rfl (hb hby d7_330) (by decide) (by decide) ?_
            exact k
          exact ⟨_, _, X136, eh136, N136, (by rw [show (m7_334_s0 p1 p2 B0) = (1 : Int32) from (by unfold m7_334_s0; rw [if_neg hc313_133, if_neg hc322_138, if_neg hc326_141])]; exact k143)⟩
  have k144 : own_Go p e below (s₁.setTop (entryFrame m #[(.ref r0), (.int p1), (.int p2)] 6)) (T132.setTop (mkF m 339 #[.val (.ref r0), .val (.int p1), .val (.int p2), .val (.int (v7_299 p1 p2 B0)), .val (.int (v7_335 p1 p2 B0)), .val (.int (v7_307 p1 p2 B0))] [(.int (v7_335 p1 p2 B0))])) := by
    intro t k
    refine k132 t ?_
    show Steps p.tables e below (T132.setTop (mkF m 334 #[.val (.ref r0), .val (.int p1), .val (.int p2), .val (.int (v7_299 p1 p2 B0)), .val (.int (v7_276 p1 p2 B0)), .val (.int (v7_307 p1 p2 B0))] [(.int (m7_334_s0 p1 p2 B0)), (.int (v7_276 p1 p2 B0))])) t
    refine XS.ior X132.here hx rfl (hb hby d7_334) rfl ?_
    show Steps p.tables e below (T132.setTop (mkF m 335 #[.val (.ref r0), .val (.int p1), .val (.int p2), .val (.int (v7_299 p1 p2 B0)), .val (.int (v7_276 p1 p2 B0)), .val (.int (v7_307 p1 p2 B0))] [(.int ((v7_276 p1 p2 B0) ||| (m7_334_s0 p1 p2 B0)))])) t
    refine XS.istore X132.here hx rfl (hb hby d7_335) rfl (l' := #[.val (.ref r0), .val (.int p1), .val (.int p2), .val (.int (v7_299 p1 p2 B0)), .val (.int (v7_335 p1 p2 B0)), .val (.int (v7_307 p1 p2 B0))]) rfl ?_
    show Steps p.tables e below (T132.setTop (mkF m 337 #[.val (.ref r0), .val (.int p1), .val (.int p2), .val (.int (v7_299 p1 p2 B0)), .val (.int (v7_335 p1 p2 B0)), .val (.int (v7_307 p1 p2 B0))] [])) t
    refine XS.iload X132.here hx rfl (hb hby d7_337) rfl ?_
    exact k
  obtain ⟨fs, hr, hrun, hended, hW, hsame⟩ := X132.leave (v := some (.int ((v7_335 p1 p2 B0) &&& 1))) (fun h => by rw [Bd.returns] at h; cases h)
  refine ⟨_, _, k144 _ ?_, hrun, hended, _, _, rfl, ?_, ⟨_, rfl⟩, hW, hsame.mono (by decide) (by decide)⟩
  · exact retN X132 hx (t := .boolean) Bd.returns (by simp) (hb hby d7_339) hr
  · show Q7 Z r0 p1 p2 B0 h0 n0 _ T132.heap _
    rw [e132]
    exact ⟨congrArg (fun z => some (Value.int z)) (show f7 p1 p2 B0 = ((v7_335 p1 p2 B0) &&& 1) from (by unfold f7; rfl)).symm, N132, rfl⟩
theorem pd_2 : parseMethodDescriptor "(JI)B" = some ⟨[.long, .int], some .byte⟩ := by decide +kernel
theorem pd_3 : parseMethodDescriptor "(II)I" = some ⟨[.int, .int], some .int⟩ := by decide +kernel
theorem pd_4 : parseMethodDescriptor "()V" = some ⟨[], none⟩ := by decide +kernel
theorem ef_0 (m : MethodId) (q0 : Int64) (p1 : Int32) (p2 : Int32) (p3 : Int32) : entryFrame m #[(.long q0), (.int p1), (.int p2), (.int p3)] maxLocals = mkF m 0 #[.val (.long q0), .second, .val (.int p1), .val (.int p2), .val (.int p3), .unset, .unset, .unset, .unset, .unset, .unset, .unset, .unset, .unset, .unset] [] := by first | (simp [entryFrame, mkF, argsToLocals, Value.category, maxLocals]; done) | rfl
def B0_14 (q0 : Int64) : Nat → Int32 := own_up (fun _ => 0) 0 ((f1 q0 (0 : Int32)).toInt8.toInt32)
def B0_23 (q0 : Int64) : Nat → Int32 := own_up (B0_14 q0) 1 ((f1 q0 (1 : Int32)).toInt8.toInt32)
def B0_32 (q0 : Int64) : Nat → Int32 := own_up (B0_23 q0) 2 ((f1 q0 (2 : Int32)).toInt8.toInt32)
def B0_41 (q0 : Int64) : Nat → Int32 := own_up (B0_32 q0) 3 ((f1 q0 (3 : Int32)).toInt8.toInt32)
def B0_50 (q0 : Int64) : Nat → Int32 := own_up (B0_41 q0) 4 ((f1 q0 (4 : Int32)).toInt8.toInt32)
def B0_59 (q0 : Int64) : Nat → Int32 := own_up (B0_50 q0) 5 ((f1 q0 (5 : Int32)).toInt8.toInt32)
def v0_67 (p1 : Int32) : Int32 := ((p1 &&& (2147483647 : Int32)) % (7 : Int32))
def v0_76 (p2 : Int32) : Int32 := ((p2 &&& (2147483647 : Int32)) % (7 : Int32))
def v0_86 (p3 : Int32) : Int32 := ((p3 &&& (2147483647 : Int32)) % (7 : Int32))
def v0_100 (p1 : Int32) (p2 : Int32) (p3 : Int32) : Int32 := (f2 (v0_67 p1) (f2 (v0_76 p2) (v0_86 p3)))
def v0_114 (p1 : Int32) (p2 : Int32) (p3 : Int32) : Int32 := (f3 (v0_67 p1) (f3 (v0_76 p2) (v0_86 p3)))
def v0_130 (p1 : Int32) (p2 : Int32) (p3 : Int32) : Int32 := (((((v0_67 p1) + (v0_76 p2)) + (v0_86 p3)) - (v0_100 p1 p2 p3)) - (v0_114 p1 p2 p3))
def w0_149_lineBytes (q0 : Int64) (p1 : Int32) (p2 : Int32) (p3 : Int32) : Int32 := (endsF (B0_59 q0) ((v0_130 p1 p2 p3).toInt - (v0_100 p1 p2 p3).toInt).toNat (v0_100 p1 p2 p3) (0 : Int32) (0 : Int32) (0 : Int32)).2.1
def w0_149_crFirst (q0 : Int64) (p1 : Int32) (p2 : Int32) (p3 : Int32) : Int32 := (endsF (B0_59 q0) ((v0_130 p1 p2 p3).toInt - (v0_100 p1 p2 p3).toInt).toNat (v0_100 p1 p2 p3) (0 : Int32) (0 : Int32) (0 : Int32)).2.2.1
def w0_149_requestLine (q0 : Int64) (p1 : Int32) (p2 : Int32) (p3 : Int32) : Int32 := (endsF (B0_59 q0) ((v0_130 p1 p2 p3).toInt - (v0_100 p1 p2 p3).toInt).toNat (v0_100 p1 p2 p3) (0 : Int32) (0 : Int32) (0 : Int32)).2.2.2
def v0_152 (q0 : Int64) (p1 : Int32) (p2 : Int32) (p3 : Int32) : Int32 := ((endsF (B0_59 q0) ((v0_130 p1 p2 p3).toInt - (v0_100 p1 p2 p3).toInt).toNat (v0_100 p1 p2 p3) (0 : Int32) (0 : Int32) (0 : Int32)).1)
def w0_167_lineBytes (q0 : Int64) (p1 : Int32) (p2 : Int32) (p3 : Int32) : Int32 := (endsF (B0_59 q0) ((v0_114 p1 p2 p3).toInt - (v0_130 p1 p2 p3).toInt).toNat (v0_130 p1 p2 p3) (w0_149_lineBytes q0 p1 p2 p3) (w0_149_crFirst q0 p1 p2 p3) (w0_149_requestLine q0 p1 p2 p3)).2.1
def w0_167_crFirst (q0 : Int64) (p1 : Int32) (p2 : Int32) (p3 : Int32) : Int32 := (endsF (B0_59 q0) ((v0_114 p1 p2 p3).toInt - (v0_130 p1 p2 p3).toInt).toNat (v0_130 p1 p2 p3) (w0_149_lineBytes q0 p1 p2 p3) (w0_149_crFirst q0 p1 p2 p3) (w0_149_requestLine q0 p1 p2 p3)).2.2.1
def w0_167_requestLine (q0 : Int64) (p1 : Int32) (p2 : Int32) (p3 : Int32) : Int32 := (endsF (B0_59 q0) ((v0_114 p1 p2 p3).toInt - (v0_130 p1 p2 p3).toInt).toNat (v0_130 p1 p2 p3) (w0_149_lineBytes q0 p1 p2 p3) (w0_149_crFirst q0 p1 p2 p3) (w0_149_requestLine q0 p1 p2 p3)).2.2.2
def f0 (q0 : Int64) (p1 : Int32) (p2 : Int32) (p3 : Int32) : Int32 := (if (v0_152 q0 p1 p2 p3) = (0 : Int32) then (if ((endsF (B0_59 q0) ((v0_114 p1 p2 p3).toInt - (v0_130 p1 p2 p3).toInt).toNat (v0_130 p1 p2 p3) (w0_149_lineBytes q0 p1 p2 p3) (w0_149_crFirst q0 p1 p2 p3) (w0_149_requestLine q0 p1 p2 p3)).1) = (0 : Int32) then (if (v0_152 q0 p1 p2 p3) = (f7 (v0_100 p1 p2 p3) (v0_130 p1 p2 p3) (B0_59 q0)) then (if (0 : Int32) = (f7 (v0_100 p1 p2 p3) (v0_114 p1 p2 p3) (B0_59 q0)) then (1 : Int32) else (0 : Int32)) else (0 : Int32)) else (if (v0_152 q0 p1 p2 p3) = (f7 (v0_100 p1 p2 p3) (v0_130 p1 p2 p3) (B0_59 q0)) then (if (1 : Int32) = (f7 (v0_100 p1 p2 p3) (v0_114 p1 p2 p3) (B0_59 q0)) then (1 : Int32) else (0 : Int32)) else (0 : Int32))) else (if (v0_152 q0 p1 p2 p3) = (f7 (v0_100 p1 p2 p3) (v0_130 p1 p2 p3) (B0_59 q0)) then (if (1 : Int32) = (f7 (v0_100 p1 p2 p3) (v0_114 p1 p2 p3) (B0_59 q0)) then (1 : Int32) else (0 : Int32)) else (0 : Int32)))
theorem own_of_range (x : Int32) (n : Nat) (hn : n ≤ 1000) (h0 : 0 ≤ x.toInt) (h1 : x.toInt < n) : ∃ k, k < n ∧ x = Int32.ofNat k := by
  refine ⟨x.toInt.toNat, by omega, ?_⟩
  apply Int32.toInt_inj.mp
  rw [Int32.toInt_ofNat_of_lt (by omega)]
  omega
theorem own_rem (x m : Int32) (hm : 0 < m.toInt) : 0 ≤ ((x &&& 2147483647) % m).toInt ∧ ((x &&& 2147483647) % m).toInt < m.toInt := by
  have e := Jvm.Kit.i32_mask x 2147483647 (k := 31) (by decide) (by decide)
  have h0 : 0 ≤ (x &&& 2147483647).toInt := by rw [e]; omega
  rw [Jvm.Kit.i32_rem_nonneg h0]
  exact ⟨Int.emod_nonneg _ (by omega), Int.emod_lt_of_pos _ hm⟩
def own_lo (a b c : Int32) : Int32 := f2 a (f2 b c)
def own_hi (a b c : Int32) : Int32 := f3 a (f3 b c)
def own_mi (a b c : Int32) : Int32 := (((a + b) + c) - own_lo a b c) - own_hi a b c
theorem own_tri : ∀ a, a < 7 → ∀ b, b < 7 → ∀ c, c < 7 → 0 ≤ (own_lo (Int32.ofNat a) (Int32.ofNat b) (Int32.ofNat c)).toInt ∧ (own_lo (Int32.ofNat a) (Int32.ofNat b) (Int32.ofNat c)).toInt ≤ (own_mi (Int32.ofNat a) (Int32.ofNat b) (Int32.ofNat c)).toInt ∧ (own_mi (Int32.ofNat a) (Int32.ofNat b) (Int32.ofNat c)).toInt ≤ (own_hi (Int32.ofNat a) (Int32.ofNat b) (Int32.ofNat c)).toInt ∧ (own_hi (Int32.ofNat a) (Int32.ofNat b) (Int32.ofNat c)).toInt ≤ 6 := by decide +kernel
theorem own_rng (p1 p2 p3 : Int32) : 0 ≤ (v0_100 p1 p2 p3).toInt ∧ (v0_100 p1 p2 p3).toInt ≤ (v0_130 p1 p2 p3).toInt ∧ (v0_130 p1 p2 p3).toInt ≤ (v0_114 p1 p2 p3).toInt ∧ (v0_114 p1 p2 p3).toInt ≤ 6 := by
  obtain ⟨h0, h1⟩ := own_rem p1 7 (by decide)
  obtain ⟨h2, h3⟩ := own_rem p2 7 (by decide)
  obtain ⟨h4, h5⟩ := own_rem p3 7 (by decide)
  obtain ⟨a, ha, ea⟩ := own_of_range _ 7 (by decide) h0 h1
  obtain ⟨b, hb, eb⟩ := own_of_range _ 7 (by decide) h2 h3
  obtain ⟨c, hc, ec⟩ := own_of_range _ 7 (by decide) h4 h5
  have q := own_tri a ha b hb c hc
  rw [← ea, ← eb, ← ec] at q
  exact q
theorem own_rng1 (p1 p2 p3 : Int32) : 0 ≤ (v0_100 p1 p2 p3).toInt ∧ (v0_100 p1 p2 p3).toInt ≤ (v0_130 p1 p2 p3).toInt ∧ (v0_130 p1 p2 p3).toInt ≤ 6 := by have h := own_rng p1 p2 p3; omega
theorem own_rng2 (p1 p2 p3 : Int32) : 0 ≤ (v0_130 p1 p2 p3).toInt ∧ (v0_130 p1 p2 p3).toInt ≤ (v0_114 p1 p2 p3).toInt ∧ (v0_114 p1 p2 p3).toInt ≤ 6 := by have h := own_rng p1 p2 p3; omega

def Q0 (Z : State) (q0 : Int64) (p1 : Int32) (p2 : Int32) (p3 : Int32) (h0 : Heap) (n0 : Nat) (v : Option Value) (h : Heap) (L : List Loc) : Prop := v = some (.int (f0 q0 p1 p2 p3)) ∧ Fr n0 L
set_option maxRecDepth 65536 in
set_option maxHeartbeats 40000000 in
theorem rm0 (l : Launch) (Z : State) (a0 : Array Value) (hw : ∀ d ∈ tables_1, d.before a0 Z = true) (ws : List Jvm.Cond) (q0 : Int64) (p1 : Int32) (p2 : Int32) (p3 : Int32) (h0 : Heap) (n0 : Nat) (Z0 : n0 ≤ h0.size) :
    MetFree l x (head1 (Jvm.Cond.code x code maxLocals ret :: ws) room_1) (fun a U => a = #[(.long q0), (.int p1), (.int p2), (.int p3)] ∧ Z.Warmed39 U.vm ∧ U.heap = h0) (fun _ _ _ _ _ => True) (fun _ U o U' => ∃ v L, o = .returned v ∧ Q0 Z q0 p1 p2 p3 h0 n0 v U'.heap L ∧ FrameEnd U o U' L room_1.cells room_1.slots) := by
  refine MetFree.of_bodySF (plainFor_of_name pn_0) hisR ?_
  intro p e s m args below meth c s₁ Bd hml0 hP hK
  obtain ⟨rfl, hZ, hh⟩ := hP
  have hx := Bd.exec
  have hby := Bd.bytes
  have hml : c.maxLocals = 15 := hml0
  have hown : s.vm.findClass "com/example/dosewire/dosewire/server/net/EndEndsInPinLaw" = some m.cls := findClass_of_methodNamed Bd.named
  have hnm := (name_of_methodNamed Bd.named Bd.method).1
  have X0 : Stand p l e room_1 s m #[(.long q0), (.int p1), (.int p2), (.int p3)] below meth c s₁ [] 0 0 := Stand.of_body Bd
  have e0 : s₁.heap = h0 := by rw [← hh, Bd.state]; rfl
  have N0 := Fr.nil n0
  have pre0 : own_Go p e below (s₁.setTop (entryFrame m #[(.long q0), (.int p1), (.int p2), (.int p3)] maxLocals)) (s₁.setTop (mkF m 0 #[.val (.long q0), .second, .val (.int p1), .val (.int p2), .val (.int p3), .unset, .unset, .unset, .unset, .unset, .unset, .unset, .unset, .unset, .unset] [])) := fun t k => castTop (ef_0 m q0 p1 p2 p3) k
  have k1 : own_Go p e below (s₁.setTop (entryFrame m #[(.long q0), (.int p1), (.int p2), (.int p3)] maxLocals)) (s₁.setTop (mkF m 2 #[.val (.long q0), .second, .val (.int p1), .val (.int p2), .val (.int p3), .unset, .unset, .unset, .unset, .unset, .unset, .unset, .unset, .unset, .unset] [(.int (6 : Int32))])) := by
    intro t k
    refine pre0 t ?_
    show Steps p.tables e below (s₁.setTop (mkF m 0 #[.val (.long q0), .second, .val (.int p1), .val (.int p2), .val (.int p3), .unset, .unset, .unset, .unset, .unset, .unset, .unset, .unset, .unset, .unset] [])) t
    refine XS.bipush X0.here hx rfl (hb hby at_0) ?_
    exact k
  obtain ⟨T2, h2, k'2, X2, e2, E2, A2, st2⟩ := newP X0 hx hZ (hw _ (List.mem_of_getElem? (i := 0) rfl)) e0 (g := (mkF m 2 #[.val (.long q0), .second, .val (.int p1), .val (.int p2), .val (.int p3), .unset, .unset, .unset, .unset, .unset, .unset, .unset, .unset, .unset, .unset] [(.int (6 : Int32))])) rfl (hb hby at_2) rfl (by decide) (cap := 6) (by decide) (by decide) (by decide) (by decide)
  obtain ⟨b2, g2⟩ : ∃ z, z = h0.size := ⟨_, rfl⟩
  rw [← g2] at A2 st2
  have V2 : own_By Z h2 b2 6 (fun _ => 0) := own_By.new A2 rfl
  have g_b2 : n0 ≤ b2 := Nat.le_trans Z0 (Nat.le_of_eq g2.symm)
  have k3 : own_Go p e below (s₁.setTop (entryFrame m #[(.long q0), (.int p1), (.int p2), (.int p3)] maxLocals)) (T2.setTop (mkF m 4 #[.val (.long q0), .second, .val (.int p1), .val (.int p2), .val (.int p3), .unset, .unset, .unset, .unset, .unset, .unset, .unset, .unset, .unset, .unset] [(.ref b2)])) := fun t k => k1 t (st2 t k)
  have k4 : own_Go p e below (s₁.setTop (entryFrame m #[(.long q0), (.int p1), (.int p2), (.int p3)] maxLocals)) (T2.setTop (mkF m 11 #[.val (.long q0), .second, .val (.int p1), .val (.int p2), .val (.int p3), .val (.ref b2), .unset, .unset, .unset, .unset, .unset, .unset, .unset, .unset, .unset] [(.int (0 : Int32)), (.long q0), (.int (0 : Int32)), (.ref b2)])) := by
    intro t k
    refine k3 t ?_
    show Steps p.tables e below (T2.setTop (mkF m 4 #[.val (.long q0), .second, .val (.int p1), .val (.int p2), .val (.int p3), .unset, .unset, .unset, .unset, .unset, .unset, .unset, .unset, .unset, .unset] [(.ref b2)])) t
    refine XS.astore X2.here hx rfl (hb hby at_4) rfl rfl (l' := #[.val (.long q0), .second, .val (.int p1), .val (.int p2), .val (.int p3), .val (.ref b2), .unset, .unset, .unset, .unset, .unset, .unset, .unset, .unset, .unset]) rfl ?_
    show Steps p.tables e below (T2.setTop (mkF m 6 #[.val (.long q0), .second, .val (.int p1), .val (.int p2), .val (.int p3), .val (.ref b2), .unset, .unset, .unset, .unset, .unset, .unset, .unset, .unset, .unset] [])) t
    refine XS.aload X2.here hx rfl (hb hby at_6) rfl rfl ?_
    show Steps p.tables e below (T2.setTop (mkF m 8 #[.val (.long q0), .second, .val (.int p1), .val (.int p2), .val (.int p3), .val (.ref b2), .unset, .unset, .unset, .unset, .unset, .unset, .unset, .unset, .unset] [(.ref b2)])) t
    refine XS.iconst X2.here hx rfl (hb hby at_8) ?_
    show Steps p.tables e below (T2.setTop (mkF m 9 #[.val (.long q0), .second, .val (.int p1), .val (.int p2), .val (.int p3), .val (.ref b2), .unset, .unset, .unset, .unset, .unset, .unset, .unset, .unset, .unset] [(.int (0 : Int32)), (.ref b2)])) t
    refine XS.lloadN X2.here hx rfl (hb hby at_9) rfl ?_
    show Steps p.tables e below (T2.setTop (mkF m 10 #[.val (.long q0), .second, .val (.int p1), .val (.int p2), .val (.int p3), .val (.ref b2), .unset, .unset, .unset, .unset, .unset, .unset, .unset, .unset, .unset] [(.long q0), (.int (0 : Int32)), (.ref b2)])) t
    refine XS.iconst X2.here hx rfl (hb hby at_10) ?_
    exact k
  obtain ⟨_, _, ⟨T5, L5, kk5, n5⟩, -, X5, ⟨Lc5, hQ5, l5, y5, z5⟩, st5⟩ := Jvm.LawKit.callS X2 hx (y := (⟨"com/example/dosewire/dosewire/server/net/EndEndsInPinLaw", "pick", "(JI)B"⟩ : MethodName)) hown (mvT hZ (hw _ (List.mem_of_getElem? (i := 1) rfl))) (mvT hZ (hw _ (List.mem_of_getElem? (i := 2) rfl))) (mvT hZ (hw _ (List.mem_of_getElem? (i := 3) rfl))) (mvT hZ (hw _ (List.mem_of_getElem? (i := 4) rfl))) (by decide) (backOf (W := 2) (rm1 l Z a0 hw [] q0 (0 : Int32)  h2 n0 (Nat.le_trans Z0 E2.1) ) hZ (hw _ (List.mem_of_getElem? (i := 4) rfl)) (hw _ (List.mem_of_getElem? (i := 3) rfl)) (by decide) (by decide)) (g := (mkF m 11 #[.val (.long q0), .second, .val (.int p1), .val (.int p2), .val (.int p3), .val (.ref b2), .unset, .unset, .unset, .unset, .unset, .unset, .unset, .unset, .unset] [(.int (0 : Int32)), (.long q0), (.int (0 : Int32)), (.ref b2)])) rfl (by rw [hml]; rfl) (argsL := [(.long q0), (.int (0 : Int32))]) (rest := [(.int (0 : Int32)), (.ref b2)]) (lenOf pd_2 rfl) rfl (by show 2 * 0 + _ ≤ _; exact Nat.le_of_eq rfl) (hb hby at_11) (fun _ _ => ⟨rfl, e2, (by decide : 1 + 0 ≤ _), (by decide : 6 + 0 ≤ _)⟩)
  dsimp only [Pt.U, Pt.locs, Pt.cells, Pt.slots] at X5 l5 y5 z5 st5 hQ5
  subst l5 y5 z5
  obtain ⟨rfl, N5q, eh5⟩ := hQ5
  have N5 := Fr.app N0 N5q
  have k6 : own_Go p e below (s₁.setTop (entryFrame m #[(.long q0), (.int p1), (.int p2), (.int p3)] maxLocals)) (T5.setTop (mkF m 14 #[.val (.long q0), .second, .val (.int p1), .val (.int p2), .val (.int p3), .val (.ref b2), .unset, .unset, .unset, .unset, .unset, .unset, .unset, .unset, .unset] [(.int (f1 q0 (0 : Int32))), (.int (0 : Int32)), (.ref b2)])) := fun t k => k4 t (st5 t k)
  obtain ⟨T7, h7, X7, e7, W7, V7, st7⟩ := own_bst X5 hx hZ eh5 V2 (j := (0 : Int32)) (by decide) (by decide) (g := (mkF m 14 #[.val (.long q0), .second, .val (.int p1), .val (.int p2), .val (.int p3), .val (.ref b2), .unset, .unset, .unset, .unset, .unset, .unset, .unset, .unset, .unset] [(.int (f1 q0 (0 : Int32))), (.int (0 : Int32)), (.ref b2)])) rfl rfl (hb hby at_14)
  have V7' : own_By Z h7 b2 6 (B0_14 q0) := V7
  have N7 := Fr.snoc X7 N5 g_b2
  have k8 : own_Go p e below (s₁.setTop (entryFrame m #[(.long q0), (.int p1), (.int p2), (.int p3)] maxLocals)) (T7.setTop (mkF m 15 #[.val (.long q0), .second, .val (.int p1), .val (.int p2), .val (.int p3), .val (.ref b2), .unset, .unset, .unset, .unset, .unset, .unset, .unset, .unset, .unset] [])) := fun t k => k6 t (st7 t k)
  have k9 : own_Go p e below (s₁.setTop (entryFrame m #[(.long q0), (.int p1), (.int p2), (.int p3)] maxLocals)) (T7.setTop (mkF m 20 #[.val (.long q0), .second, .val (.int p1), .val (.int p2), .val (.int p3), .val (.ref b2), .unset, .unset, .unset, .unset, .unset, .unset, .unset, .unset, .unset] [(.int (1 : Int32)), (.long q0), (.int (1 : Int32)), (.ref b2)])) := by
    intro t k
    refine k8 t ?_
    show Steps p.tables e below (T7.setTop (mkF m 15 #[.val (.long q0), .second, .val (.int p1), .val (.int p2), .val (.int p3), .val (.ref b2), .unset, .unset, .unset, .unset, .unset, .unset, .unset, .unset, .unset] [])) t
    refine XS.aload X7.here hx rfl (hb hby at_15) rfl rfl ?_
    show Steps p.tables e below (T7.setTop (mkF m 17 #[.val (.long q0), .second, .val (.int p1), .val (.int p2), .val (.int p3), .val (.ref b2), .unset, .unset, .unset, .unset, .unset, .unset, .unset, .unset, .unset] [(.ref b2)])) t
    refine XS.iconst X7.here hx rfl (hb hby at_17) ?_
    show Steps p.tables e below (T7.setTop (mkF m 18 #[.val (.long q0), .second, .val (.int p1), .val (.int p2), .val (.int p3), .val (.ref b2), .unset, .unset, .unset, .unset, .unset, .unset, .unset, .unset, .unset] [(.int (1 : Int32)), (.ref b2)])) t
    refine XS.lloadN X7.here hx rfl (hb hby at_18) rfl ?_
    show Steps p.tables e below (T7.setTop (mkF m 19 #[.val (.long q0), .second, .val (.int p1), .val (.int p2), .val (.int p3), .val (.ref b2), .unset, .unset, .unset, .unset, .unset, .unset, .unset, .unset, .unset] [(.long q0), (.int (1 : Int32)), (.ref b2)])) t
    refine XS.iconst X7.here hx rfl (hb hby at_19) ?_
    exact k
  obtain ⟨_, _, ⟨T10, L10, kk10, n10⟩, -, X10, ⟨Lc10, hQ10, l10, y10, z10⟩, st10⟩ := Jvm.LawKit.callS X7 hx (y := (⟨"com/example/dosewire/dosewire/server/net/EndEndsInPinLaw", "pick", "(JI)B"⟩ : MethodName)) hown (mvT hZ (hw _ (List.mem_of_getElem? (i := 1) rfl))) (mvT hZ (hw _ (List.mem_of_getElem? (i := 2) rfl))) (mvT hZ (hw _ (List.mem_of_getElem? (i := 3) rfl))) (mvT hZ (hw _ (List.mem_of_getElem? (i := 4) rfl))) (by decide) (backOf (W := 2) (rm1 l Z a0 hw [] q0 (1 : Int32)  h7 n0 (Nat.le_trans (Nat.le_trans Z0 E2.1) (Keep.of_wr W7).1) ) hZ (hw _ (List.mem_of_getElem? (i := 4) rfl)) (hw _ (List.mem_of_getElem? (i := 3) rfl)) (by decide) (by decide)) (g := (mkF m 20 #[.val (.long q0), .second, .val (.int p1), .val (.int p2), .val (.int p3), .val (.ref b2), .unset, .unset, .unset, .unset, .unset, .unset, .unset, .unset, .unset] [(.int (1 : Int32)), (.long q0), (.int (1 : Int32)), (.ref b2)])) rfl (by rw [hml]; rfl) (argsL := [(.long q0), (.int (1 : Int32))]) (rest := [(.int (1 : Int32)), (.ref b2)]) (lenOf pd_2 rfl) rfl (by show 2 * 0 + _ ≤ _; exact Nat.le_of_eq rfl) (hb hby at_20) (fun _ _ => ⟨rfl, e7, (by decide : 1 + 0 ≤ _), (by decide : 6 + 0 ≤ _)⟩)
  dsimp only [Pt.U, Pt.locs, Pt.cells, Pt.slots] at X10 l10 y10 z10 st10 hQ10
  subst l10 y10 z10
  obtain ⟨rfl, N10q, eh10⟩ := hQ10
  have N10 := Fr.app N7 N10q
  have k11 : own_Go p e below (s₁.setTop (entryFrame m #[(.long q0), (.int p1), (.int p2), (.int p3)] maxLocals)) (T10.setTop (mkF m 23 #[.val (.long q0), .second, .val (.int p1), .val (.int p2), .val (.int p3), .val (.ref b2), .unset, .unset, .unset, .unset, .unset, .unset, .unset, .unset, .unset] [(.int (f1 q0 (1 : Int32))), (.int (1 : Int32)), (.ref b2)])) := fun t k => k9 t (st10 t k)
  obtain ⟨T12, h12, X12, e12, W12, V12, st12⟩ := own_bst X10 hx hZ eh10 V7' (j := (1 : Int32)) (by decide) (by decide) (g := (mkF m 23 #[.val (.long q0), .second, .val (.int p1), .val (.int p2), .val (.int p3), .val (.ref b2), .unset, .unset, .unset, .unset, .unset, .unset, .unset, .unset, .unset] [(.int (f1 q0 (1 : Int32))), (.int (1 : Int32)), (.ref b2)])) rfl rfl (hb hby at_23)
  have V12' : own_By Z h12 b2 6 (B0_23 q0) := V12
  have N12 := Fr.snoc X12 N10 g_b2
  have k13 : own_Go p e below (s₁.setTop (entryFrame m #[(.long q0), (.int p1), (.int p2), (.int p3)] maxLocals)) (T12.setTop (mkF m 24 #[.val (.long q0), .second, .val (.int p1), .val (.int p2), .val (.int p3), .val (.ref b2), .unset, .unset, .unset, .unset, .unset, .unset, .unset, .unset, .unset] [])) := fun t k => k11 t (st12 t k)
  have k14 : own_Go p e below (s₁.setTop (entryFrame m #[(.long q0), (.int p1), (.int p2), (.int p3)] maxLocals)) (T12.setTop (mkF m 29 #[.val (.long q0), .second, .val (.int p1), .val (.int p2), .val (.int p3), .val (.ref b2), .unset, .unset, .unset, .unset, .unset, .unset, .unset, .unset, .unset] [(.int (2 : Int32)), (.long q0), (.int (2 : Int32)), (.ref b2)])) := by
    intro t k
    refine k13 t ?_
    show Steps p.tables e below (T12.setTop (mkF m 24 #[.val (.long q0), .second, .val (.int p1), .val (.int p2), .val (.int p3), .val (.ref b2), .unset, .unset, .unset, .unset, .unset, .unset, .unset, .unset, .unset] [])) t
    refine XS.aload X12.here hx rfl (hb hby at_24) rfl rfl ?_
    show Steps p.tables e below (T12.setTop (mkF m 26 #[.val (.long q0), .second, .val (.int p1), .val (.int p2), .val (.int p3), .val (.ref b2), .unset, .unset, .unset, .unset, .unset, .unset, .unset, .unset, .unset] [(.ref b2)])) t
    refine XS.iconst X12.here hx rfl (hb hby at_26) ?_
    show Steps p.tables e below (T12.setTop (mkF m 27 #[.val (.long q0), .second, .val (.int p1), .val (.int p2), .val (.int p3), .val (.ref b2), .unset, .unset, .unset, .unset, .unset, .unset, .unset, .unset, .unset] [(.int (2 : Int32)), (.ref b2)])) t
    refine XS.lloadN X12.here hx rfl (hb hby at_27) rfl ?_
    show Steps p.tables e below (T12.setTop (mkF m 28 #[.val (.long q0), .second, .val (.int p1), .val (.int p2), .val (.int p3), .val (.ref b2), .unset, .unset, .unset, .unset, .unset, .unset, .unset, .unset, .unset] [(.long q0), (.int (2 : Int32)), (.ref b2)])) t
    refine XS.iconst X12.here hx rfl (hb hby at_28) ?_
    exact k
  obtain ⟨_, _, ⟨T15, L15, kk15, n15⟩, -, X15, ⟨Lc15, hQ15, l15, y15, z15⟩, st15⟩ := Jvm.LawKit.callS X12 hx (y := (⟨"com/example/dosewire/dosewire/server/net/EndEndsInPinLaw", "pick", "(JI)B"⟩ : MethodName)) hown (mvT hZ (hw _ (List.mem_of_getElem? (i := 1) rfl))) (mvT hZ (hw _ (List.mem_of_getElem? (i := 2) rfl))) (mvT hZ (hw _ (List.mem_of_getElem? (i := 3) rfl))) (mvT hZ (hw _ (List.mem_of_getElem? (i := 4) rfl))) (by decide) (backOf (W := 2) (rm1 l Z a0 hw [] q0 (2 : Int32)  h12 n0 (Nat.le_trans (Nat.le_trans (Nat.le_trans Z0 E2.1) (Keep.of_wr W7).1) (Keep.of_wr W12).1) ) hZ (hw _ (List.mem_of_getElem? (i := 4) rfl)) (hw _ (List.mem_of_getElem? (i := 3) rfl)) (by decide) (by decide)) (g := (mkF m 29 #[.val (.long q0), .second, .val (.int p1), .val (.int p2), .val (.int p3), .val (.ref b2), .unset, .unset, .unset, .unset, .unset, .unset, .unset, .unset, .unset] [(.int (2 : Int32)), (.long q0), (.int (2 : Int32)), (.ref b2)])) rfl (by rw [hml]; rfl) (argsL := [(.long q0), (.int (2 : Int32))]) (rest := [(.int (2 : Int32)), (.ref b2)]) (lenOf pd_2 rfl) rfl (by show 2 * 0 + _ ≤ _; exact Nat.le_of_eq rfl) (hb hby at_29) (fun _ _ => ⟨rfl, e12, (by decide : 1 + 0 ≤ _), (by decide : 6 + 0 ≤ _)⟩)
  dsimp only [Pt.U, Pt.locs, Pt.cells, Pt.slots] at X15 l15 y15 z15 st15 hQ15
  subst l15 y15 z15
  obtain ⟨rfl, N15q, eh15⟩ := hQ15
  have N15 := Fr.app N12 N15q
  have k16 : own_Go p e below (s₁.setTop (entryFrame m #[(.long q0), (.int p1), (.int p2), (.int p3)] maxLocals)) (T15.setTop (mkF m 32 #[.val (.long q0), .second, .val (.int p1), .val (.int p2), .val (.int p3), .val (.ref b2), .unset, .unset, .unset, .unset, .unset, .unset, .unset, .unset, .unset] [(.int (f1 q0 (2 : Int32))), (.int (2 : Int32)), (.ref b2)])) := fun t k => k14 t (st15 t k)
  obtain ⟨T17, h17, X17, e17, W17, V17, st17⟩ := own_bst X15 hx hZ eh15 V12' (j := (2 : Int32)) (by decide) (by decide) (g := (mkF m 32 #[.val (.long q0), .second, .val (.int p1), .val (.int p2), .val (.int p3), .val (.ref b2), .unset, .unset, .unset, .unset, .unset, .unset, .unset, .unset, .unset] [(.int (f1 q0 (2 : Int32))), (.int (2 : Int32)), (.ref b2)])) rfl rfl (hb hby at_32)
  have V17' : own_By Z h17 b2 6 (B0_32 q0) := V17
  have N17 := Fr.snoc X17 N15 g_b2
  have k18 : own_Go p e below (s₁.setTop (entryFrame m #[(.long q0), (.int p1), (.int p2), (.int p3)] maxLocals)) (T17.setTop (mkF m 33 #[.val (.long q0), .second, .val (.int p1), .val (.int p2), .val (.int p3), .val (.ref b2), .unset, .unset, .unset, .unset, .unset, .unset, .unset, .unset, .unset] [])) := fun t k => k16 t (st17 t k)
  have k19 : own_Go p e below (s₁.setTop (entryFrame m #[(.long q0), (.int p1), (.int p2), (.int p3)] maxLocals)) (T17.setTop (mkF m 38 #[.val (.long q0), .second, .val (.int p1), .val (.int p2), .val (.int p3), .val (.ref b2), .unset, .unset, .unset, .unset, .unset, .unset, .unset, .unset, .unset] [(.int (3 : Int32)), (.long q0), (.int (3 : Int32)), (.ref b2)])) := by
    intro t k
    refine k18 t ?_
    show Steps p.tables e below (T17.setTop (mkF m 33 #[.val (.long q0), .second, .val (.int p1), .val (.int p2), .val (.int p3), .val (.ref b2), .unset, .unset, .unset, .unset, .unset, .unset, .unset, .unset, .unset] [])) t
    refine XS.aload X17.here hx rfl (hb hby at_33) rfl rfl ?_
    show Steps p.tables e below (T17.setTop (mkF m 35 #[.val (.long q0), .second, .val (.int p1), .val (.int p2), .val (.int p3), .val (.ref b2), .unset, .unset, .unset, .unset, .unset, .unset, .unset, .unset, .unset] [(.ref b2)])) t
    refine XS.iconst X17.here hx rfl (hb hby at_35) ?_
    show Steps p.tables e below (T17.setTop (mkF m 36 #[.val (.long q0), .second, .val (.int p1), .val (.int p2), .val (.int p3), .val (.ref b2), .unset, .unset, .unset, .unset, .unset, .unset, .unset, .unset, .unset] [(.int (3 : Int32)), (.ref b2)])) t
    refine XS.lloadN X17.here hx rfl (hb hby at_36) rfl ?_
    show Steps p.tables e below (T17.setTop (mkF m 37 #[.val (.long q0), .second, .val (.int p1), .val (.int p2), .val (.int p3), .val (.ref b2), .unset, .unset, .unset, .unset, .unset, .unset, .unset, .unset, .unset] [(.long q0), (.int (3 : Int32)), (.ref b2)])) t
    refine XS.iconst X17.here hx rfl (hb hby at_37) ?_
    exact k
  obtain ⟨_, _, ⟨T20, L20, kk20, n20⟩, -, X20, ⟨Lc20, hQ20, l20, y20, z20⟩, st20⟩ := Jvm.LawKit.callS X17 hx (y := (⟨"com/example/dosewire/dosewire/server/net/EndEndsInPinLaw", "pick", "(JI)B"⟩ : MethodName)) hown (mvT hZ (hw _ (List.mem_of_getElem? (i := 1) rfl))) (mvT hZ (hw _ (List.mem_of_getElem? (i := 2) rfl))) (mvT hZ (hw _ (List.mem_of_getElem? (i := 3) rfl))) (mvT hZ (hw _ (List.mem_of_getElem? (i := 4) rfl))) (by decide) (backOf (W := 2) (rm1 l Z a0 hw [] q0 (3 : Int32)  h17 n0 (Nat.le_trans (Nat.le_trans (Nat.le_trans (Nat.le_trans Z0 E2.1) (Keep.of_wr W7).1) (Keep.of_wr W12).1) (Keep.of_wr W17).1) ) hZ (hw _ (List.mem_of_getElem? (i := 4) rfl)) (hw _ (List.mem_of_getElem? (i := 3) rfl)) (by decide) (by decide)) (g := (mkF m 38 #[.val (.long q0), .second, .val (.int p1), .val (.int p2), .val (.int p3), .val (.ref b2), .unset, .unset, .unset, .unset, .unset, .unset, .unset, .unset, .unset] [(.int (3 : Int32)), (.long q0), (.int (3 : Int32)), (.ref b2)])) rfl (by rw [hml]; rfl) (argsL := [(.long q0), (.int (3 : Int32))]) (rest := [(.int (3 : Int32)), (.ref b2)]) (lenOf pd_2 rfl) rfl (by show 2 * 0 + _ ≤ _; exact Nat.le_of_eq rfl) (hb hby at_38) (fun _ _ => ⟨rfl, e17, (by decide : 1 + 0 ≤ _), (by decide : 6 + 0 ≤ _)⟩)
  dsimp only [Pt.U, Pt.locs, Pt.cells, Pt.slots] at X20 l20 y20 z20 st20 hQ20
  subst l20 y20 z20
  obtain ⟨rfl, N20q, eh20⟩ := hQ20
  have N20 := Fr.app N17 N20q
  have k21 : own_Go p e below (s₁.setTop (entryFrame m #[(.long q0), (.int p1), (.int p2), (.int p3)] maxLocals)) (T20.setTop (mkF m 41 #[.val (.long q0), .second, .val (.int p1), .val (.int p2), .val (.int p3), .val (.ref b2), .unset, .unset, .unset, .unset, .unset, .unset, .unset, .unset, .unset] [(.int (f1 q0 (3 : Int32))), (.int (3 : Int32)), (.ref b2)])) := fun t k => k19 t (st20 t k)
  obtain ⟨T22, h22, X22, e22, W22, V22, st22⟩ := own_bst X20 hx hZ eh20 V17' (j := (3 : Int32)) (by decide) (by decide) (g := (mkF m 41 #[.val (.long q0), .second, .val (.int p1), .val (.int p2), .val (.int p3), .val (.ref b2), .unset, .unset, .unset, .unset, .unset, .unset, .unset, .unset, .unset] [(.int (f1 q0 (3 : Int32))), (.int (3 : Int32)), (.ref b2)])) rfl rfl (hb hby at_41)
  have V22' : own_By Z h22 b2 6 (B0_41 q0) := V22
  have N22 := Fr.snoc X22 N20 g_b2
  have k23 : own_Go p e below (s₁.setTop (entryFrame m #[(.long q0), (.int p1), (.int p2), (.int p3)] maxLocals)) (T22.setTop (mkF m 42 #[.val (.long q0), .second, .val (.int p1), .val (.int p2), .val (.int p3), .val (.ref b2), .unset, .unset, .unset, .unset, .unset, .unset, .unset, .unset, .unset] [])) := fun t k => k21 t (st22 t k)
  have k24 : own_Go p e below (s₁.setTop (entryFrame m #[(.long q0), (.int p1), (.int p2), (.int p3)] maxLocals)) (T22.setTop (mkF m 47 #[.val (.long q0), .second, .val (.int p1), .val (.int p2), .val (.int p3), .val (.ref b2), .unset, .unset, .unset, .unset, .unset, .unset, .unset, .unset, .unset] [(.int (4 : Int32)), (.long q0), (.int (4 : Int32)), (.ref b2)])) := by
    intro t k
    refine k23 t ?_
    show Steps p.tables e below (T22.setTop (mkF m 42 #[.val (.long q0), .second, .val (.int p1), .val (.int p2), .val (.int p3), .val (.ref b2), .unset, .unset, .unset, .unset, .unset, .unset, .unset, .unset, .unset] [])) t
    refine XS.aload X22.here hx rfl (hb hby at_42) rfl rfl ?_
    show Steps p.tables e below (T22.setTop (mkF m 44 #[.val (.long q0), .second, .val (.int p1), .val (.int p2), .val (.int p3), .val (.ref b2), .unset, .unset, .unset, .unset, .unset, .unset, .unset, .unset, .unset] [(.ref b2)])) t
    refine XS.iconst X22.here hx rfl (hb hby at_44) ?_
    show Steps p.tables e below (T22.setTop (mkF m 45 #[.val (.long q0), .second, .val (.int p1), .val (.int p2), .val (.int p3), .val (.ref b2), .unset, .unset, .unset, .unset, .unset, .unset, .unset, .unset, .unset] [(.int (4 : Int32)), (.ref b2)])) t
    refine XS.lloadN X22.here hx rfl (hb hby at_45) rfl ?_
    show Steps p.tables e below (T22.setTop (mkF m 46 #[.val (.long q0), .second, .val (.int p1), .val (.int p2), .val (.int p3), .val (.ref b2), .unset, .unset, .unset, .unset, .unset, .unset, .unset, .unset, .unset] [(.long q0), (.int (4 : Int32)), (.ref b2)])) t
    refine XS.iconst X22.here hx rfl (hb hby at_46) ?_
    exact k
  obtain ⟨_, _, ⟨T25, L25, kk25, n25⟩, -, X25, ⟨Lc25, hQ25, l25, y25, z25⟩, st25⟩ := Jvm.LawKit.callS X22 hx (y := (⟨"com/example/dosewire/dosewire/server/net/EndEndsInPinLaw", "pick", "(JI)B"⟩ : MethodName)) hown (mvT hZ (hw _ (List.mem_of_getElem? (i := 1) rfl))) (mvT hZ (hw _ (List.mem_of_getElem? (i := 2) rfl))) (mvT hZ (hw _ (List.mem_of_getElem? (i := 3) rfl))) (mvT hZ (hw _ (List.mem_of_getElem? (i := 4) rfl))) (by decide) (backOf (W := 2) (rm1 l Z a0 hw [] q0 (4 : Int32)  h22 n0 (Nat.le_trans (Nat.le_trans (Nat.le_trans (Nat.le_trans (Nat.le_trans Z0 E2.1) (Keep.of_wr W7).1) (Keep.of_wr W12).1) (Keep.of_wr W17).1) (Keep.of_wr W22).1) ) hZ (hw _ (List.mem_of_getElem? (i := 4) rfl)) (hw _ (List.mem_of_getElem? (i := 3) rfl)) (by decide) (by decide)) (g := (mkF m 47 #[.val (.long q0), .second, .val (.int p1), .val (.int p2), .val (.int p3), .val (.ref b2), .unset, .unset, .unset, .unset, .unset, .unset, .unset, .unset, .unset] [(.int (4 : Int32)), (.long q0), (.int (4 : Int32)), (.ref b2)])) rfl (by rw [hml]; rfl) (argsL := [(.long q0), (.int (4 : Int32))]) (rest := [(.int (4 : Int32)), (.ref b2)]) (lenOf pd_2 rfl) rfl (by show 2 * 0 + _ ≤ _; exact Nat.le_of_eq rfl) (hb hby at_47) (fun _ _ => ⟨rfl, e22, (by decide : 1 + 0 ≤ _), (by decide : 6 + 0 ≤ _)⟩)
  dsimp only [Pt.U, Pt.locs, Pt.cells, Pt.slots] at X25 l25 y25 z25 st25 hQ25
  subst l25 y25 z25
  obtain ⟨rfl, N25q, eh25⟩ := hQ25
  have N25 := Fr.app N22 N25q
  have k26 : own_Go p e below (s₁.setTop (entryFrame m #[(.long q0), (.int p1), (.int p2), (.int p3)] maxLocals)) (T25.setTop (mkF m 50 #[.val (.long q0), .second, .val (.int p1), .val (.int p2), .val (.int p3), .val (.ref b2), .unset, .unset, .unset, .unset, .unset, .unset, .unset, .unset, .unset] [(.int (f1 q0 (4 : Int32))), (.int (4 : Int32)), (.ref b2)])) := fun t k => k24 t (st25 t k)
  obtain ⟨T27, h27, X27, e27, W27, V27, st27⟩ := own_bst X25 hx hZ eh25 V22' (j := (4 : Int32)) (by decide) (by decide) (g := (mkF m 50 #[.val (.long q0), .second, .val (.int p1), .val (.int p2), .val (.int p3), .val (.ref b2), .unset, .unset, .unset, .unset, .unset, .unset, .unset, .unset, .unset] [(.int (f1 q0 (4 : Int32))), (.int (4 : Int32)), (.ref b2)])) rfl rfl (hb hby at_50)
  have V27' : own_By Z h27 b2 6 (B0_50 q0) := V27
  have N27 := Fr.snoc X27 N25 g_b2
  have k28 : own_Go p e below (s₁.setTop (entryFrame m #[(.long q0), (.int p1), (.int p2), (.int p3)] maxLocals)) (T27.setTop (mkF m 51 #[.val (.long q0), .second, .val (.int p1), .val (.int p2), .val (.int p3), .val (.ref b2), .unset, .unset, .unset, .unset, .unset, .unset, .unset, .unset, .unset] [])) := fun t k => k26 t (st27 t k)
  have k29 : own_Go p e below (s₁.setTop (entryFrame m #[(.long q0), (.int p1), (.int p2), (.int p3)] maxLocals)) (T27.setTop (mkF m 56 #[.val (.long q0), .second, .val (.int p1), .val (.int p2), .val (.int p3), .val (.ref b2), .unset, .unset, .unset, .unset, .unset, .unset, .unset, .unset, .unset] [(.int (5 : Int32)), (.long q0), (.int (5 : Int32)), (.ref b2)])) := by
    intro t k
    refine k28 t ?_
    show Steps p.tables e below (T27.setTop (mkF m 51 #[.val (.long q0), .second, .val (.int p1), .val (.int p2), .val (.int p3), .val (.ref b2), .unset, .unset, .unset, .unset, .unset, .unset, .unset, .unset, .unset] [])) t
    refine XS.aload X27.here hx rfl (hb hby at_51) rfl rfl ?_
    show Steps p.tables e below (T27.setTop (mkF m 53 #[.val (.long q0), .second, .val (.int p1), .val (.int p2), .val (.int p3), .val (.ref b2), .unset, .unset, .unset, .unset, .unset, .unset, .unset, .unset, .unset] [(.ref b2)])) t
    refine XS.iconst X27.here hx rfl (hb hby at_53) ?_
    show Steps p.tables e below (T27.setTop (mkF m 54 #[.val (.long q0), .second, .val (.int p1), .val (.int p2), .val (.int p3), .val (.ref b2), .unset, .unset, .unset, .unset, .unset, .unset, .unset, .unset, .unset] [(.int (5 : Int32)), (.ref b2)])) t
    refine XS.lloadN X27.here hx rfl (hb hby at_54) rfl ?_
    show Steps p.tables e below (T27.setTop (mkF m 55 #[.val (.long q0), .second, .val (.int p1), .val (.int p2), .val (.int p3), .val (.ref b2), .unset, .unset, .unset, .unset, .unset, .unset, .unset, .unset, .unset] [(.long q0), (.int (5 : Int32)), (.ref b2)])) t
    refine XS.iconst X27.here hx rfl (hb hby at_55) ?_
    exact k
  obtain ⟨_, _, ⟨T30, L30, kk30, n30⟩, -, X30, ⟨Lc30, hQ30, l30, y30, z30⟩, st30⟩ := Jvm.LawKit.callS X27 hx (y := (⟨"com/example/dosewire/dosewire/server/net/EndEndsInPinLaw", "pick", "(JI)B"⟩ : MethodName)) hown (mvT hZ (hw _ (List.mem_of_getElem? (i := 1) rfl))) (mvT hZ (hw _ (List.mem_of_getElem? (i := 2) rfl))) (mvT hZ (hw _ (List.mem_of_getElem? (i := 3) rfl))) (mvT hZ (hw _ (List.mem_of_getElem? (i := 4) rfl))) (by decide) (backOf (W := 2) (rm1 l Z a0 hw [] q0 (5 : Int32)  h27 n0 (Nat.le_trans (Nat.le_trans (Nat.le_trans (Nat.le_trans (Nat.le_trans (Nat.le_trans Z0 E2.1) (Keep.of_wr W7).1) (Keep.of_wr W12).1) (Keep.of_wr W17).1) (Keep.of_wr W22).1) (Keep.of_wr W27).1) ) hZ (hw _ (List.mem_of_getElem? (i := 4) rfl)) (hw _ (List.mem_of_getElem? (i := 3) rfl)) (by decide) (by decide)) (g := (mkF m 56 #[.val (.long q0), .second, .val (.int p1), .val (.int p2), .val (.int p3), .val (.ref b2), .unset, .unset, .unset, .unset, .unset, .unset, .unset, .unset, .unset] [(.int (5 : Int32)), (.long q0), (.int (5 : Int32)), (.ref b2)])) rfl (by rw [hml]; rfl) (argsL := [(.long q0), (.int (5 : Int32))]) (rest := [(.int (5 : Int32)), (.ref b2)]) (lenOf pd_2 rfl) rfl (by show 2 * 0 + _ ≤ _; exact Nat.le_of_eq rfl) (hb hby at_56) (fun _ _ => ⟨rfl, e27, (by decide : 1 + 0 ≤ _), (by decide : 6 + 0 ≤ _)⟩)
  dsimp only [Pt.U, Pt.locs, Pt.cells, Pt.slots] at X30 l30 y30 z30 st30 hQ30
  subst l30 y30 z30
  obtain ⟨rfl, N30q, eh30⟩ := hQ30
  have N30 := Fr.app N27 N30q
  have k31 : own_Go p e below (s₁.setTop (entryFrame m #[(.long q0), (.int p1), (.int p2), (.int p3)] maxLocals)) (T30.setTop (mkF m 59 #[.val (.long q0), .second, .val (.int p1), .val (.int p2), .val (.int p3), .val (.ref b2), .unset, .unset, .unset, .unset, .unset, .unset, .unset, .unset, .unset] [(.int (f1 q0 (5 : Int32))), (.int (5 : Int32)), (.ref b2)])) := fun t k => k29 t (st30 t k)
  obtain ⟨T32, h32, X32, e32, W32, V32, st32⟩ := own_bst X30 hx hZ eh30 V27' (j := (5 : Int32)) (by decide) (by decide) (g := (mkF m 59 #[.val (.long q0), .second, .val (.int p1), .val (.int p2), .val (.int p3), .val (.ref b2), .unset, .unset, .unset, .unset, .unset, .unset, .unset, .unset, .unset] [(.int (f1 q0 (5 : Int32))), (.int (5 : Int32)), (.ref b2)])) rfl rfl (hb hby at_59)
  have V32' : own_By Z h32 b2 6 (B0_59 q0) := V32
  have N32 := Fr.snoc X32 N30 g_b2
  have k33 : own_Go p e below (s₁.setTop (entryFrame m #[(.long q0), (.int p1), (.int p2), (.int p3)] maxLocals)) (T32.setTop (mkF m 60 #[.val (.long q0), .second, .val (.int p1), .val (.int p2), .val (.int p3), .val (.ref b2), .unset, .unset, .unset, .unset, .unset, .unset, .unset, .unset, .unset] [])) := fun t k => k31 t (st32 t k)
  have k34 : own_Go p e below (s₁.setTop (entryFrame m #[(.long q0), (.int p1), (.int p2), (.int p3)] maxLocals)) (T32.setTop (mkF m 94 #[.val (.long q0), .second, .val (.int p1), .val (.int p2), .val (.int p3), .val (.ref b2), .val (.int (v0_67 p1)), .val (.int (v0_76 p2)), .val (.int (v0_86 p3)), .unset, .unset, .unset, .unset, .unset, .unset] [(.int (v0_86 p3)), (.int (v0_76 p2)), (.int (v0_67 p1))])) := by
    intro t k
    refine k33 t ?_
    show Steps p.tables e below (T32.setTop (mkF m 60 #[.val (.long q0), .second, .val (.int p1), .val (.int p2), .val (.int p3), .val (.ref b2), .unset, .unset, .unset, .unset, .unset, .unset, .unset, .unset, .unset] [])) t
    refine XS.iloadN X32.here hx rfl (hb hby at_60) rfl ?_
    show Steps p.tables e below (T32.setTop (mkF m 61 #[.val (.long q0), .second, .val (.int p1), .val (.int p2), .val (.int p3), .val (.ref b2), .unset, .unset, .unset, .unset, .unset, .unset, .unset, .unset, .unset] [(.int p1)])) t
    refine X32.ldcInt hx hown (mvT hZ (hw _ (List.mem_of_getElem? (i := 5) rfl))) (g := (mkF m 61 #[.val (.long q0), .second, .val (.int p1), .val (.int p2), .val (.int p3), .val (.ref b2), .unset, .unset, .unset, .unset, .unset, .unset, .unset, .unset, .unset] [(.int p1)])) rfl (hb hby at_61) _ ?_
    show Steps p.tables e below (T32.setTop (mkF m 63 #[.val (.long q0), .second, .val (.int p1), .val (.int p2), .val (.int p3), .val (.ref b2), .unset, .unset, .unset, .unset, .unset, .unset, .unset, .unset, .unset] [(.int (2147483647 : Int32)), (.int p1)])) t
    refine XS.iand X32.here hx rfl (hb hby at_63) rfl ?_
    show Steps p.tables e below (T32.setTop (mkF m 64 #[.val (.long q0), .second, .val (.int p1), .val (.int p2), .val (.int p3), .val (.ref b2), .unset, .unset, .unset, .unset, .unset, .unset, .unset, .unset, .unset] [(.int (p1 &&& (2147483647 : Int32)))])) t
    refine XS.bipush X32.here hx rfl (hb hby at_64) ?_
    show Steps p.tables e below (T32.setTop (mkF m 66 #[.val (.long q0), .second, .val (.int p1), .val (.int p2), .val (.int p3), .val (.ref b2), .unset, .unset, .unset, .unset, .unset, .unset, .unset, .unset, .unset] [(.int (7 : Int32)), (.int (p1 &&& (2147483647 : Int32)))])) t
    refine iremM X32 hx rfl (hb hby at_66) rfl (by decide) ?_
    show Steps p.tables e below (T32.setTop (mkF m 67 #[.val (.long q0), .second, .val (.int p1), .val (.int p2), .val (.int p3), .val (.ref b2), .unset, .unset, .unset, .unset, .unset, .unset, .unset, .unset, .unset] [(.int ((p1 &&& (2147483647 : Int32)) % (7 : Int32)))])) t
    refine XS.istore X32.here hx rfl (hb hby at_67) rfl (l' := #[.val (.long q0), .second, .val (.int p1), .val (.int p2), .val (.int p3), .val (.ref b2), .val (.int (v0_67 p1)), .unset, .unset, .unset, .unset, .unset, .unset, .unset, .unset]) rfl ?_
    show Steps p.tables e below (T32.setTop (mkF m 69 #[.val (.long q0), .second, .val (.int p1), .val (.int p2), .val (.int p3), .val (.ref b2), .val (.int (v0_67 p1)), .unset, .unset, .unset, .unset, .unset, .unset, .unset, .unset] [])) t
    refine XS.iloadN X32.here hx rfl (hb hby at_69) rfl ?_
    show Steps p.tables e below (T32.setTop (mkF m 70 #[.val (.long q0), .second, .val (.int p1), .val (.int p2), .val (.int p3), .val (.ref b2), .val (.int (v0_67 p1)), .unset, .unset, .unset, .unset, .unset, .unset, .unset, .unset] [(.int p2)])) t
    refine X32.ldcInt hx hown (mvT hZ (hw _ (List.mem_of_getElem? (i := 5) rfl))) (g := (mkF m 70 #[.val (.long q0), .second, .val (.int p1), .val (.int p2), .val (.int p3), .val (.ref b2), .val (.int (v0_67 p1)), .unset, .unset, .unset, .unset, .unset, .unset, .unset, .unset] [(.int p2)])) rfl (hb hby at_70) _ ?_
    show Steps p.tables e below (T32.setTop (mkF m 72 #[.val (.long q0), .second, .val (.int p1), .val (.int p2), .val (.int p3), .val (.ref b2), .val (.int (v0_67 p1)), .unset, .unset, .unset, .unset, .unset, .unset, .unset, .unset] [(.int (2147483647 : Int32)), (.int p2)])) t
    refine XS.iand X32.here hx rfl (hb hby at_72) rfl ?_
    show Steps p.tables e below (T32.setTop (mkF m 73 #[.val (.long q0), .second, .val (.int p1), .val (.int p2), .val (.int p3), .val (.ref b2), .val (.int (v0_67 p1)), .unset, .unset, .unset, .unset, .unset, .unset, .unset, .unset] [(.int (p2 &&& (2147483647 : Int32)))])) t
    refine XS.bipush X32.here hx rfl (hb hby at_73) ?_
    show Steps p.tables e below (T32.setTop (mkF m 75 #[.val (.long q0), .second, .val (.int p1), .val (.int p2), .val (.int p3), .val (.ref b2), .val (.int (v0_67 p1)), .unset, .unset, .unset, .unset, .unset, .unset, .unset, .unset] [(.int (7 : Int32)), (.int (p2 &&& (2147483647 : Int32)))])) t
    refine iremM X32 hx rfl (hb hby at_75) rfl (by decide) ?_
    show Steps p.tables e below (T32.setTop (mkF m 76 #[.val (.long q0), .second, .val (.int p1), .val (.int p2), .val (.int p3), .val (.ref b2), .val (.int (v0_67 p1)), .unset, .unset, .unset, .unset, .unset, .unset, .unset, .unset] [(.int ((p2 &&& (2147483647 : Int32)) % (7 : Int32)))])) t
    refine XS.istore X32.here hx rfl (hb hby at_76) rfl (l' := #[.val (.long q0), .second, .val (.int p1), .val (.int p2), .val (.int p3), .val (.ref b2), .val (.int (v0_67 p1)), .val (.int (v0_76 p2)), .unset, .unset, .unset, .unset, .unset, .unset, .unset]) rfl ?_
    show Steps p.tables e below (T32.setTop (mkF m 78 #[.val (.long q0), .second, .val (.int p1), .val (.int p2), .val (.int p3), .val (.ref b2), .val (.int (v0_67 p1)), .val (.int (v0_76 p2)), .unset, .unset, .unset, .unset, .unset, .unset, .unset] [])) t
    refine XS.iload X32.here hx rfl (hb hby at_78) rfl ?_
    show Steps p.tables e below (T32.setTop (mkF m 80 #[.val (.long q0), .second, .val (.int p1), .val (.int p2), .val (.int p3), .val (.ref b2), .val (.int (v0_67 p1)), .val (.int (v0_76 p2)), .unset, .unset, .unset, .unset, .unset, .unset, .unset] [(.int p3)])) t
    refine X32.ldcInt hx hown (mvT hZ (hw _ (List.mem_of_getElem? (i := 5) rfl))) (g := (mkF m 80 #[.val (.long q0), .second, .val (.int p1), .val (.int p2), .val (.int p3), .val (.ref b2), .val (.int (v0_67 p1)), .val (.int (v0_76 p2)), .unset, .unset, .unset, .unset, .unset, .unset, .unset] [(.int p3)])) rfl (hb hby at_80) _ ?_
    show Steps p.tables e below (T32.setTop (mkF m 82 #[.val (.long q0), .second, .val (.int p1), .val (.int p2), .val (.int p3), .val (.ref b2), .val (.int (v0_67 p1)), .val (.int (v0_76 p2)), .unset, .unset, .unset, .unset, .unset, .unset, .unset] [(.int (2147483647 : Int32)), (.int p3)])) t
    refine XS.iand X32.here hx rfl (hb hby at_82) rfl ?_
    show Steps p.tables e below (T32.setTop (mkF m 83 #[.val (.long q0), .second, .val (.int p1), .val (.int p2), .val (.int p3), .val (.ref b2), .val (.int (v0_67 p1)), .val (.int (v0_76 p2)), .unset, .unset, .unset, .unset, .unset, .unset, .unset] [(.int (p3 &&& (2147483647 : Int32)))])) t
    refine XS.bipush X32.here hx rfl (hb hby at_83) ?_
    show Steps p.tables e below (T32.setTop (mkF m 85 #[.val (.long q0), .second, .val (.int p1), .val (.int p2), .val (.int p3), .val (.ref b2), .val (.int (v0_67 p1)), .val (.int (v0_76 p2)), .unset, .unset, .unset, .unset, .unset, .unset, .unset] [(.int (7 : Int32)), (.int (p3 &&& (2147483647 : Int32)))])) t
    refine iremM X32 hx rfl (hb hby at_85) rfl (by decide) ?_
    show Steps p.tables e below (T32.setTop (mkF m 86 #[.val (.long q0), .second, .val (.int p1), .val (.int p2), .val (.int p3), .val (.ref b2), .val (.int (v0_67 p1)), .val (.int (v0_76 p2)), .unset, .unset, .unset, .unset, .unset, .unset, .unset] [(.int ((p3 &&& (2147483647 : Int32)) % (7 : Int32)))])) t
    refine XS.istore X32.here hx rfl (hb hby at_86) rfl (l' := #[.val (.long q0), .second, .val (.int p1), .val (.int p2), .val (.int p3), .val (.ref b2), .val (.int (v0_67 p1)), .val (.int (v0_76 p2)), .val (.int (v0_86 p3)), .unset, .unset, .unset, .unset, .unset, .unset]) rfl ?_
    show Steps p.tables e below (T32.setTop (mkF m 88 #[.val (.long q0), .second, .val (.int p1), .val (.int p2), .val (.int p3), .val (.ref b2), .val (.int (v0_67 p1)), .val (.int (v0_76 p2)), .val (.int (v0_86 p3)), .unset, .unset, .unset, .unset, .unset, .unset] [])) t
    refine XS.iload X32.here hx rfl (hb hby at_88) rfl ?_
    show Steps p.tables e below (T32.setTop (mkF m 90 #[.val (.long q0), .second, .val (.int p1), .val (.int p2), .val (.int p3), .val (.ref b2), .val (.int (v0_67 p1)), .val (.int (v0_76 p2)), .val (.int (v0_86 p3)), .unset, .unset, .unset, .unset, .unset, .unset] [(.int (v0_67 p1))])) t
    refine XS.iload X32.here hx rfl (hb hby at_90) rfl ?_
    show Steps p.tables e below (T32.setTop (mkF m 92 #[.val (.long q0), .second, .val (.int p1), .val (.int p2), .val (.int p3), .val (.ref b2), .val (.int (v0_67 p1)), .val (.int (v0_76 p2)), .val (.int (v0_86 p3)), .unset, .unset, .unset, .unset, .unset, .unset] [(.int (v0_76 p2)), (.int (v0_67 p1))])) t
    refine XS.iload X32.here hx rfl (hb hby at_92) rfl ?_
    exact k
  obtain ⟨_, _, ⟨T35, L35, kk35, n35⟩, -, X35, ⟨Lc35, hQ35, l35, y35, z35⟩, st35⟩ := Jvm.LawKit.callS X32 hx (y := (⟨"java/lang/Math", "min", "(II)I"⟩ : MethodName)) hown (mvT hZ (hw _ (List.mem_of_getElem? (i := 6) rfl))) (mvT hZ (hw _ (List.mem_of_getElem? (i := 7) rfl))) (mvT hZ (hw _ (List.mem_of_getElem? (i := 8) rfl))) (mvT hZ (hw _ (List.mem_of_getElem? (i := 9) rfl))) (by decide) (backOf (W := 1) (rm2 l Z a0 hw [] (v0_76 p2) (v0_86 p3)  h32 n0 (Nat.le_trans (Nat.le_trans (Nat.le_trans (Nat.le_trans (Nat.le_trans (Nat.le_trans (Nat.le_trans Z0 E2.1) (Keep.of_wr W7).1) (Keep.of_wr W12).1) (Keep.of_wr W17).1) (Keep.of_wr W22).1) (Keep.of_wr W27).1) (Keep.of_wr W32).1) ) hZ (hw _ (List.mem_of_getElem? (i := 9) rfl)) (hw _ (List.mem_of_getElem? (i := 8) rfl)) (by decide) (by decide)) (g := (mkF m 94 #[.val (.long q0), .second, .val (.int p1), .val (.int p2), .val (.int p3), .val (.ref b2), .val (.int (v0_67 p1)), .val (.int (v0_76 p2)), .val (.int (v0_86 p3)), .unset, .unset, .unset, .unset, .unset, .unset] [(.int (v0_86 p3)), (.int (v0_76 p2)), (.int (v0_67 p1))])) rfl (by rw [hml]; rfl) (argsL := [(.int (v0_76 p2)), (.int (v0_86 p3))]) (rest := [(.int (v0_67 p1))]) (lenOf pd_3 rfl) rfl (by show 2 * 0 + _ ≤ _; exact Nat.le_of_eq rfl) (hb hby at_94) (fun _ _ => ⟨rfl, e32, (by decide : 1 + 0 ≤ _), (by decide : 6 + 0 ≤ _)⟩)
  dsimp only [Pt.U, Pt.locs, Pt.cells, Pt.slots] at X35 l35 y35 z35 st35 hQ35
  subst l35 y35 z35
  obtain ⟨rfl, N35q, eh35⟩ := hQ35
  have N35 := Fr.app N32 N35q
  have k36 : own_Go p e below (s₁.setTop (entryFrame m #[(.long q0), (.int p1), (.int p2), (.int p3)] maxLocals)) (T35.setTop (mkF m 97 #[.val (.long q0), .second, .val (.int p1), .val (.int p2), .val (.int p3), .val (.ref b2), .val (.int (v0_67 p1)), .val (.int (v0_76 p2)), .val (.int (v0_86 p3)), .unset, .unset, .unset, .unset, .unset, .unset] [(.int (f2 (v0_76 p2) (v0_86 p3))), (.int (v0_67 p1))])) := fun t k => k34 t (st35 t k)
  obtain ⟨_, _, ⟨T37, L37, kk37, n37⟩, -, X37, ⟨Lc37, hQ37, l37, y37, z37⟩, st37⟩ := Jvm.LawKit.callS X35 hx (y := (⟨"java/lang/Math", "min", "(II)I"⟩ : MethodName)) hown (mvT hZ (hw _ (List.mem_of_getElem? (i := 6) rfl))) (mvT hZ (hw _ (List.mem_of_getElem? (i := 7) rfl))) (mvT hZ (hw _ (List.mem_of_getElem? (i := 8) rfl))) (mvT hZ (hw _ (List.mem_of_getElem? (i := 9) rfl))) (by decide) (backOf (W := 0) (rm2 l Z a0 hw [] (v0_67 p1) (f2 (v0_76 p2) (v0_86 p3))  h32 n0 (Nat.le_trans (Nat.le_trans (Nat.le_trans (Nat.le_trans (Nat.le_trans (Nat.le_trans (Nat.le_trans Z0 E2.1) (Keep.of_wr W7).1) (Keep.of_wr W12).1) (Keep.of_wr W17).1) (Keep.of_wr W22).1) (Keep.of_wr W27).1) (Keep.of_wr W32).1) ) hZ (hw _ (List.mem_of_getElem? (i := 9) rfl)) (hw _ (List.mem_of_getElem? (i := 8) rfl)) (by decide) (by decide)) (g := (mkF m 97 #[.val (.long q0), .second, .val (.int p1), .val (.int p2), .val (.int p3), .val (.ref b2), .val (.int (v0_67 p1)), .val (.int (v0_76 p2)), .val (.int (v0_86 p3)), .unset, .unset, .unset, .unset, .unset, .unset] [(.int (f2 (v0_76 p2) (v0_86 p3))), (.int (v0_67 p1))])) rfl (by rw [hml]; rfl) (argsL := [(.int (v0_67 p1)), (.int (f2 (v0_76 p2) (v0_86 p3)))]) (rest := []) (lenOf pd_3 rfl) rfl (by show 2 * 0 + _ ≤ _; exact Nat.le_of_eq rfl) (hb hby at_97) (fun _ _ => ⟨rfl, eh35, (by decide : 1 + 0 ≤ _), (by decide : 6 + 0 ≤ _)⟩)
  dsimp only [Pt.U, Pt.locs, Pt.cells, Pt.slots] at X37 l37 y37 z37 st37 hQ37
  subst l37 y37 z37
  obtain ⟨rfl, N37q, eh37⟩ := hQ37
  have N37 := Fr.app N35 N37q
  have k38 : own_Go p e below (s₁.setTop (entryFrame m #[(.long q0), (.int p1), (.int p2), (.int p3)] maxLocals)) (T37.setTop (mkF m 100 #[.val (.long q0), .second, .val (.int p1), .val (.int p2), .val (.int p3), .val (.ref b2), .val (.int (v0_67 p1)), .val (.int (v0_76 p2)), .val (.int (v0_86 p3)), .unset, .unset, .unset, .unset, .unset, .unset] [(.int (f2 (v0_67 p1) (f2 (v0_76 p2) (v0_86 p3))))])) := fun t k => k36 t (st37 t k)
  have k39 : own_Go p e below (s₁.setTop (entryFrame m #[(.long q0), (.int p1), (.int p2), (.int p3)] maxLocals)) (T37.setTop (mkF m 108 #[.val (.long q0), .second, .val (.int p1), .val (.int p2), .val (.int p3), .val (.ref b2), .val (.int (v0_67 p1)), .val (.int (v0_76 p2)), .val (.int (v0_86 p3)), .val (.int (v0_100 p1 p2 p3)), .unset, .unset, .unset, .unset, .unset] [(.int (v0_86 p3)), (.int (v0_76 p2)), (.int (v0_67 p1))])) := by
    intro t k
    refine k38 t ?_
    show Steps p.tables e below (T37.setTop (mkF m 100 #[.val (.long q0), .second, .val (.int p1), .val (.int p2), .val (.int p3), .val (.ref b2), .val (.int (v0_67 p1)), .val (.int (v0_76 p2)), .val (.int (v0_86 p3)), .unset, .unset, .unset, .unset, .unset, .unset] [(.int (f2 (v0_67 p1) (f2 (v0_76 p2) (v0_86 p3))))])) t
    refine XS.istore X37.here hx rfl (hb hby at_100) rfl (l' := #[.val (.long q0), .second, .val (.int p1), .val (.int p2), .val (.int p3), .val (.ref b2), .val (.int (v0_67 p1)), .val (.int (v0_76 p2)), .val (.int (v0_86 p3)), .val (.int (v0_100 p1 p2 p3)), .unset, .unset, .unset, .unset, .unset]) rfl ?_
    show Steps p.tables e below (T37.setTop (mkF m 102 #[.val (.long q0), .second, .val (.int p1), .val (.int p2), .val (.int p3), .val (.ref b2), .val (.int (v0_67 p1)), .val (.int (v0_76 p2)), .val (.int (v0_86 p3)), .val (.int (v0_100 p1 p2 p3)), .unset, .unset, .unset, .unset, .unset] [])) t
    refine XS.iload X37.here hx rfl (hb hby at_102) rfl ?_
    show Steps p.tables e below (T37.setTop (mkF m 104 #[.val (.long q0), .second, .val (.int p1), .val (.int p2), .val (.int p3), .val (.ref b2), .val (.int (v0_67 p1)), .val (.int (v0_76 p2)), .val (.int (v0_86 p3)), .val (.int (v0_100 p1 p2 p3)), .unset, .unset, .unset, .unset, .unset] [(.int (v0_67 p1))])) t
    refine XS.iload X37.here hx rfl (hb hby at_104) rfl ?_
    show Steps p.tables e below (T37.setTop (mkF m 106 #[.val (.long q0), .second, .val (.int p1), .val (.int p2), .val (.int p3), .val (.ref b2), .val (.int (v0_67 p1)), .val (.int (v0_76 p2)), .val (.int (v0_86 p3)), .val (.int (v0_100 p1 p2 p3)), .unset, .unset, .unset, .unset, .unset] [(.int (v0_76 p2)), (.int (v0_67 p1))])) t
    refine XS.iload X37.here hx rfl (hb hby at_106) rfl ?_
    exact k
  obtain ⟨_, _, ⟨T40, L40, kk40, n40⟩, -, X40, ⟨Lc40, hQ40, l40, y40, z40⟩, st40⟩ := Jvm.LawKit.callS X37 hx (y := (⟨"java/lang/Math", "max", "(II)I"⟩ : MethodName)) hown (mvT hZ (hw _ (List.mem_of_getElem? (i := 10) rfl))) (mvT hZ (hw _ (List.mem_of_getElem? (i := 11) rfl))) (mvT hZ (hw _ (List.mem_of_getElem? (i := 8) rfl))) (mvT hZ (hw _ (List.mem_of_getElem? (i := 12) rfl))) (by decide) (backOf (W := 1) (rm3 l Z a0 hw [] (v0_76 p2) (v0_86 p3)  h32 n0 (Nat.le_trans (Nat.le_trans (Nat.le_trans (Nat.le_trans (Nat.le_trans (Nat.le_trans (Nat.le_trans Z0 E2.1) (Keep.of_wr W7).1) (Keep.of_wr W12).1) (Keep.of_wr W17).1) (Keep.of_wr W22).1) (Keep.of_wr W27).1) (Keep.of_wr W32).1) ) hZ (hw _ (List.mem_of_getElem? (i := 12) rfl)) (hw _ (List.mem_of_getElem? (i := 8) rfl)) (by decide) (by decide)) (g := (mkF m 108 #[.val (.long q0), .second, .val (.int p1), .val (.int p2), .val (.int p3), .val (.ref b2), .val (.int (v0_67 p1)), .val (.int (v0_76 p2)), .val (.int (v0_86 p3)), .val (.int (v0_100 p1 p2 p3)), .unset, .unset, .unset, .unset, .unset] [(.int (v0_86 p3)), (.int (v0_76 p2)), (.int (v0_67 p1))])) rfl (by rw [hml]; rfl) (argsL := [(.int (v0_76 p2)), (.int (v0_86 p3))]) (rest := [(.int (v0_67 p1))]) (lenOf pd_3 rfl) rfl (by show 2 * 0 + _ ≤ _; exact Nat.le_of_eq rfl) (hb hby at_108) (fun _ _ => ⟨rfl, eh37, (by decide : 1 + 0 ≤ _), (by decide : 6 + 0 ≤ _)⟩)
  dsimp only [Pt.U, Pt.locs, Pt.cells, Pt.slots] at X40 l40 y40 z40 st40 hQ40
  subst l40 y40 z40
  obtain ⟨rfl, N40q, eh40⟩ := hQ40
  have N40 := Fr.app N37 N40q
  have k41 : own_Go p e below (s₁.setTop (entryFrame m #[(.long q0), (.int p1), (.int p2), (.int p3)] maxLocals)) (T40.setTop (mkF m 111 #[.val (.long q0), .second, .val (.int p1), .val (.int p2), .val (.int p3), .val (.ref b2), .val (.int (v0_67 p1)), .val (.int (v0_76 p2)), .val (.int (v0_86 p3)), .val (.int (v0_100 p1 p2 p3)), .unset, .unset, .unset, .unset, .unset] [(.int (f3 (v0_76 p2) (v0_86 p3))), (.int (v0_67 p1))])) := fun t k => k39 t (st40 t k)
  obtain ⟨_, _, ⟨T42, L42, kk42, n42⟩, -, X42, ⟨Lc42, hQ42, l42, y42, z42⟩, st42⟩ := Jvm.LawKit.callS X40 hx (y := (⟨"java/lang/Math", "max", "(II)I"⟩ : MethodName)) hown (mvT hZ (hw _ (List.mem_of_getElem? (i := 10) rfl))) (mvT hZ (hw _ (List.mem_of_getElem? (i := 11) rfl))) (mvT hZ (hw _ (List.mem_of_getElem? (i := 8) rfl))) (mvT hZ (hw _ (List.mem_of_getElem? (i := 12) rfl))) (by decide) (backOf (W := 0) (rm3 l Z a0 hw [] (v0_67 p1) (f3 (v0_76 p2) (v0_86 p3))  h32 n0 (Nat.le_trans (Nat.le_trans (Nat.le_trans (Nat.le_trans (Nat.le_trans (Nat.le_trans (Nat.le_trans Z0 E2.1) (Keep.of_wr W7).1) (Keep.of_wr W12).1) (Keep.of_wr W17).1) (Keep.of_wr W22).1) (Keep.of_wr W27).1) (Keep.of_wr W32).1) ) hZ (hw _ (List.mem_of_getElem? (i := 12) rfl)) (hw _ (List.mem_of_getElem? (i := 8) rfl)) (by decide) (by decide)) (g := (mkF m 111 #[.val (.long q0), .second, .val (.int p1), .val (.int p2), .val (.int p3), .val (.ref b2), .val (.int (v0_67 p1)), .val (.int (v0_76 p2)), .val (.int (v0_86 p3)), .val (.int (v0_100 p1 p2 p3)), .unset, .unset, .unset, .unset, .unset] [(.int (f3 (v0_76 p2) (v0_86 p3))), (.int (v0_67 p1))])) rfl (by rw [hml]; rfl) (argsL := [(.int (v0_67 p1)), (.int (f3 (v0_76 p2) (v0_86 p3)))]) (rest := []) (lenOf pd_3 rfl) rfl (by show 2 * 0 + _ ≤ _; exact Nat.le_of_eq rfl) (hb hby at_111) (fun _ _ => ⟨rfl, eh40, (by decide : 1 + 0 ≤ _), (by decide : 6 + 0 ≤ _)⟩)
  dsimp only [Pt.U, Pt.locs, Pt.cells, Pt.slots] at X42 l42 y42 z42 st42 hQ42
  subst l42 y42 z42
  obtain ⟨rfl, N42q, eh42⟩ := hQ42
  have N42 := Fr.app N40 N42q
  have k43 : own_Go p e below (s₁.setTop (entryFrame m #[(.long q0), (.int p1), (.int p2), (.int p3)] maxLocals)) (T42.setTop (mkF m 114 #[.val (.long q0), .second, .val (.int p1), .val (.int p2), .val (.int p3), .val (.ref b2), .val (.int (v0_67 p1)), .val (.int (v0_76 p2)), .val (.int (v0_86 p3)), .val (.int (v0_100 p1 p2 p3)), .unset, .unset, .unset, .unset, .unset] [(.int (f3 (v0_67 p1) (f3 (v0_76 p2) (v0_86 p3))))])) := fun t k => k41 t (st42 t k)
  have k44 : own_Go p e below (s₁.setTop (entryFrame m #[(.long q0), (.int p1), (.int p2), (.int p3)] maxLocals)) (T42.setTop (mkF m 132 #[.val (.long q0), .second, .val (.int p1), .val (.int p2), .val (.int p3), .val (.ref b2), .val (.int (v0_67 p1)), .val (.int (v0_76 p2)), .val (.int (v0_86 p3)), .val (.int (v0_100 p1 p2 p3)), .val (.int (v0_114 p1 p2 p3)), .val (.int (v0_130 p1 p2 p3)), .unset, .unset, .unset] [])) := by
    intro t k
    refine k43 t ?_
    show Steps p.tables e below (T42.setTop (mkF m 114 #[.val (.long q0), .second, .val (.int p1), .val (.int p2), .val (.int p3), .val (.ref b2), .val (.int (v0_67 p1)), .val (.int (v0_76 p2)), .val (.int (v0_86 p3)), .val (.int (v0_100 p1 p2 p3)), .unset, .unset, .unset, .unset, .unset] [(.int (f3 (v0_67 p1) (f3 (v0_76 p2) (v0_86 p3))))])) t
    refine XS.istore X42.here hx rfl (hb hby at_114) rfl (l' := #[.val (.long q0), .second, .val (.int p1), .val (.int p2), .val (.int p3), .val (.ref b2), .val (.int (v0_67 p1)), .val (.int (v0_76 p2)), .val (.int (v0_86 p3)), .val (.int (v0_100 p1 p2 p3)), .val (.int (v0_114 p1 p2 p3)), .unset, .unset, .unset, .unset]) rfl ?_
    show Steps p.tables e below (T42.setTop (mkF m 116 #[.val (.long q0), .second, .val (.int p1), .val (.int p2), .val (.int p3), .val (.ref b2), .val (.int (v0_67 p1)), .val (.int (v0_76 p2)), .val (.int (v0_86 p3)), .val (.int (v0_100 p1 p2 p3)), .val (.int (v0_114 p1 p2 p3)), .unset, .unset, .unset, .unset] [])) t
    refine XS.iload X42.here hx rfl (hb hby at_116) rfl ?_
    show Steps p.tables e below (T42.setTop (mkF m 118 #[.val (.long q0), .second, .val (.int p1), .val (.int p2), .val (.int p3), .val (.ref b2), .val (.int (v0_67 p1)), .val (.int (v0_76 p2)), .val (.int (v0_86 p3)), .val (.int (v0_100 p1 p2 p3)), .val (.int (v0_114 p1 p2 p3)), .unset, .unset, .unset, .unset] [(.int (v0_67 p1))])) t
    refine XS.iload X42.here hx rfl (hb hby at_118) rfl ?_
    show Steps p.tables e below (T42.setTop (mkF m 120 #[.val (.long q0), .second, .val (.int p1), .val (.int p2), .val (.int p3), .val (.ref b2), .val (.int (v0_67 p1)), .val (.int (v0_76 p2)), .val (.int (v0_86 p3)), .val (.int (v0_100 p1 p2 p3)), .val (.int (v0_114 p1 p2 p3)), .unset, .unset, .unset, .unset] [(.int (v0_76 p2)), (.int (v0_67 p1))])) t
    refine XS.iadd X42.here hx rfl (hb hby at_120) rfl ?_
    show Steps p.tables e below (T42.setTop (mkF m 121 #[.val (.long q0), .second, .val (.int p1), .val (.int p2), .val (.int p3), .val (.ref b2), .val (.int (v0_67 p1)), .val (.int (v0_76 p2)), .val (.int (v0_86 p3)), .val (.int (v0_100 p1 p2 p3)), .val (.int (v0_114 p1 p2 p3)), .unset, .unset, .unset, .unset] [(.int ((v0_67 p1) + (v0_76 p2)))])) t
    refine XS.iload X42.here hx rfl (hb hby at_121) rfl ?_
    show Steps p.tables e below (T42.setTop (mkF m 123 #[.val (.long q0), .second, .val (.int p1), .val (.int p2), .val (.int p3), .val (.ref b2), .val (.int (v0_67 p1)), .val (.int (v0_76 p2)), .val (.int (v0_86 p3)), .val (.int (v0_100 p1 p2 p3)), .val (.int (v0_114 p1 p2 p3)), .unset, .unset, .unset, .unset] [(.int (v0_86 p3)), (.int ((v0_67 p1) + (v0_76 p2)))])) t
    refine XS.iadd X42.here hx rfl (hb hby at_123) rfl ?_
    show Steps p.tables e below (T42.setTop (mkF m 124 #[.val (.long q0), .second, .val (.int p1), .val (.int p2), .val (.int p3), .val (.ref b2), .val (.int (v0_67 p1)), .val (.int (v0_76 p2)), .val (.int (v0_86 p3)), .val (.int (v0_100 p1 p2 p3)), .val (.int (v0_114 p1 p2 p3)), .unset, .unset, .unset, .unset] [(.int (((v0_67 p1) + (v0_76 p2)) + (v0_86 p3)))])) t
    refine XS.iload X42.here hx rfl (hb hby at_124) rfl ?_
    show Steps p.tables e below (T42.setTop (mkF m 126 #[.val (.long q0), .second, .val (.int p1), .val (.int p2), .val (.int p3), .val (.ref b2), .val (.int (v0_67 p1)), .val (.int (v0_76 p2)), .val (.int (v0_86 p3)), .val (.int (v0_100 p1 p2 p3)), .val (.int (v0_114 p1 p2 p3)), .unset, .unset, .unset, .unset] [(.int (v0_100 p1 p2 p3)), (.int (((v0_67 p1) + (v0_76 p2)) + (v0_86 p3)))])) t
    refine XS.isub X42.here hx rfl (hb hby at_126) rfl ?_
    show Steps p.tables e below (T42.setTop (mkF m 127 #[.val (.long q0), .second, .val (.int p1), .val (.int p2), .val (.int p3), .val (.ref b2), .val (.int (v0_67 p1)), .val (.int (v0_76 p2)), .val (.int (v0_86 p3)), .val (.int (v0_100 p1 p2 p3)), .val (.int (v0_114 p1 p2 p3)), .unset, .unset, .unset, .unset] [(.int ((((v0_67 p1) + (v0_76 p2)) + (v0_86 p3)) - (v0_100 p1 p2 p3)))])) t
    refine XS.iload X42.here hx rfl (hb hby at_127) rfl ?_
    show Steps p.tables e below (T42.setTop (mkF m 129 #[.val (.long q0), .second, .val (.int p1), .val (.int p2), .val (.int p3), .val (.ref b2), .val (.int (v0_67 p1)), .val (.int (v0_76 p2)), .val (.int (v0_86 p3)), .val (.int (v0_100 p1 p2 p3)), .val (.int (v0_114 p1 p2 p3)), .unset, .unset, .unset, .unset] [(.int (v0_114 p1 p2 p3)), (.int ((((v0_67 p1) + (v0_76 p2)) + (v0_86 p3)) - (v0_100 p1 p2 p3)))])) t
    refine XS.isub X42.here hx rfl (hb hby at_129) rfl ?_
    show Steps p.tables e below (T42.setTop (mkF m 130 #[.val (.long q0), .second, .val (.int p1), .val (.int p2), .val (.int p3), .val (.ref b2), .val (.int (v0_67 p1)), .val (.int (v0_76 p2)), .val (.int (v0_86 p3)), .val (.int (v0_100 p1 p2 p3)), .val (.int (v0_114 p1 p2 p3)), .unset, .unset, .unset, .unset] [(.int (((((v0_67 p1) + (v0_76 p2)) + (v0_86 p3)) - (v0_100 p1 p2 p3)) - (v0_114 p1 p2 p3)))])) t
    refine XS.istore X42.here hx rfl (hb hby at_130) rfl (l' := #[.val (.long q0), .second, .val (.int p1), .val (.int p2), .val (.int p3), .val (.ref b2), .val (.int (v0_67 p1)), .val (.int (v0_76 p2)), .val (.int (v0_86 p3)), .val (.int (v0_100 p1 p2 p3)), .val (.int (v0_114 p1 p2 p3)), .val (.int (v0_130 p1 p2 p3)), .unset, .unset, .unset]) rfl ?_
    exact k
  obtain ⟨T45, h45, X45, e45, E45, A45, D45, -, st45⟩ := newO X42 hx hZ hown (hw _ (List.mem_of_getElem? (i := 13) rfl)) (hw _ (List.mem_of_getElem? (i := 14) rfl)) (hw _ (List.mem_of_getElem? (i := 15) rfl)) eh42 (g := (mkF m 132 #[.val (.long q0), .second, .val (.int p1), .val (.int p2), .val (.int p3), .val (.ref b2), .val (.int (v0_67 p1)), .val (.int (v0_76 p2)), .val (.int (v0_86 p3)), .val (.int (v0_100 p1 p2 p3)), .val (.int (v0_114 p1 p2 p3)), .val (.int (v0_130 p1 p2 p3)), .unset, .unset, .unset] [])) rfl (hb hby at_132) (by decide) (by decide)
  obtain ⟨b45, g45⟩ : ∃ z, z = h32.size := ⟨_, rfl⟩
  rw [← g45] at A45 D45 st45
  have F_lineBytes_b45 : Fld Z h45 b45 "com/example/dosewire/dosewire/server/net/RequestHead$End" "lineBytes" "I" (.int (0 : Int32)) := D45 (Or.inl (hw _ (List.mem_of_getElem? (i := 28) rfl))) (ty := .int) (by decide)
  have F_crFirst_b45 : Fld Z h45 b45 "com/example/dosewire/dosewire/server/net/RequestHead$End" "crFirst" "Z" (.int (0 : Int32)) := D45 (Or.inl (hw _ (List.mem_of_getElem? (i := 30) rfl))) (ty := .boolean) (by decide)
  have F_requestLine_b45 : Fld Z h45 b45 "com/example/dosewire/dosewire/server/net/RequestHead$End" "requestLine" "Z" (.int (0 : Int32)) := D45 (Or.inl (hw _ (List.mem_of_getElem? (i := 32) rfl))) (ty := .boolean) (by decide)
  have g_b45 : n0 ≤ b45 := Nat.le_trans (Nat.le_trans (Nat.le_trans (Nat.le_trans (Nat.le_trans (Nat.le_trans (Nat.le_trans (Nat.le_trans Z0 E2.1) (Keep.of_wr W7).1) (Keep.of_wr W12).1) (Keep.of_wr W17).1) (Keep.of_wr W22).1) (Keep.of_wr W27).1) (Keep.of_wr W32).1) (Nat.le_of_eq g45.symm)
  have k46 : own_Go p e below (s₁.setTop (entryFrame m #[(.long q0), (.int p1), (.int p2), (.int p3)] maxLocals)) (T45.setTop (mkF m 135 #[.val (.long q0), .second, .val (.int p1), .val (.int p2), .val (.int p3), .val (.ref b2), .val (.int (v0_67 p1)), .val (.int (v0_76 p2)), .val (.int (v0_86 p3)), .val (.int (v0_100 p1 p2 p3)), .val (.int (v0_114 p1 p2 p3)), .val (.int (v0_130 p1 p2 p3)), .unset, .unset, .unset] [(.ref b45)])) := fun t k => k44 t (st45 t k)
  have k47 : own_Go p e below (s₁.setTop (entryFrame m #[(.long q0), (.int p1), (.int p2), (.int p3)] maxLocals)) (T45.setTop (mkF m 136 #[.val (.long q0), .second, .val (.int p1), .val (.int p2), .val (.int p3), .val (.ref b2), .val (.int (v0_67 p1)), .val (.int (v0_76 p2)), .val (.int (v0_86 p3)), .val (.int (v0_100 p1 p2 p3)), .val (.int (v0_114 p1 p2 p3)), .val (.int (v0_130 p1 p2 p3)), .unset, .unset, .unset] [(.ref b45), (.ref b45)])) := by
    intro t k
    refine k46 t ?_
    show Steps p.tables e below (T45.setTop (mkF m 135 #[.val (.long q0), .second, .val (.int p1), .val (.int p2), .val (.int p3), .val (.ref b2), .val (.int (v0_67 p1)), .val (.int (v0_76 p2)), .val (.int (v0_86 p3)), .val (.int (v0_100 p1 p2 p3)), .val (.int (v0_114 p1 p2 p3)), .val (.int (v0_130 p1 p2 p3)), .unset, .unset, .unset] [(.ref b45)])) t
    refine XS.dup X45.here hx rfl (hb hby at_135) rfl rfl ?_
    exact k
  obtain ⟨_, _, ⟨T48, L48, kk48, n48⟩, -, X48, ⟨Lc48, hQ48, l48, y48, z48⟩, st48⟩ := X45.specialBack hx (y := (⟨"com/example/dosewire/dosewire/server/net/RequestHead$End", "<init>", "()V"⟩ : MethodName)) rfl hown (mvT hZ (hw _ (List.mem_of_getElem? (i := 16) rfl))) (mvT hZ (hw _ (List.mem_of_getElem? (i := 17) rfl))) (mvT hZ (hw _ (List.mem_of_getElem? (i := 18) rfl))) (by decide) (backOf (W := 1) (rm4 l Z a0 hw [] b45  h45 n0 (Nat.le_trans (Nat.le_trans (Nat.le_trans (Nat.le_trans (Nat.le_trans (Nat.le_trans (Nat.le_trans (Nat.le_trans Z0 E2.1) (Keep.of_wr W7).1) (Keep.of_wr W12).1) (Keep.of_wr W17).1) (Keep.of_wr W22).1) (Keep.of_wr W27).1) (Keep.of_wr W32).1) E45.1) ) hZ (hw _ (List.mem_of_getElem? (i := 18) rfl)) (hw _ (List.mem_of_getElem? (i := 15) rfl)) (by decide) (by decide)) (g := (mkF m 136 #[.val (.long q0), .second, .val (.int p1), .val (.int p2), .val (.int p3), .val (.ref b2), .val (.int (v0_67 p1)), .val (.int (v0_76 p2)), .val (.int (v0_86 p3)), .val (.int (v0_100 p1 p2 p3)), .val (.int (v0_114 p1 p2 p3)), .val (.int (v0_130 p1 p2 p3)), .unset, .unset, .unset] [(.ref b45), (.ref b45)])) rfl (by rw [hml]; rfl) (Steps.refl _) (a := b45) (argsL := []) (rest := [(.ref b45)]) (lenOf pd_4 rfl) rfl (by show 2 * 0 + _ ≤ _; exact Nat.le_of_eq rfl) (hb hby at_136) (fun _ _ => ⟨rfl, e45, (by decide : 2 + 0 ≤ _), (by decide : 9 + 0 ≤ _)⟩)
  dsimp only [Pt.U, Pt.locs, Pt.cells, Pt.slots] at X48 l48 y48 z48 st48 hQ48
  subst l48 y48 z48
  obtain ⟨rfl, N48q, eh48⟩ := hQ48
  have N48 := Fr.app N42 N48q
  have k49 : own_Go p e below (s₁.setTop (entryFrame m #[(.long q0), (.int p1), (.int p2), (.int p3)] maxLocals)) (T48.setTop (mkF m 139 #[.val (.long q0), .second, .val (.int p1), .val (.int p2), .val (.int p3), .val (.ref b2), .val (.int (v0_67 p1)), .val (.int (v0_76 p2)), .val (.int (v0_86 p3)), .val (.int (v0_100 p1 p2 p3)), .val (.int (v0_114 p1 p2 p3)), .val (.int (v0_130 p1 p2 p3)), .unset, .unset, .unset] [(.ref b45)])) := fun t k => k47 t (st48.trans k)
  have k50 : own_Go p e below (s₁.setTop (entryFrame m #[(.long q0), (.int p1), (.int p2), (.int p3)] maxLocals)) (T48.setTop (mkF m 149 #[.val (.long q0), .second, .val (.int p1), .val (.int p2), .val (.int p3), .val (.ref b2), .val (.int (v0_67 p1)), .val (.int (v0_76 p2)), .val (.int (v0_86 p3)), .val (.int (v0_100 p1 p2 p3)), .val (.int (v0_114 p1 p2 p3)), .val (.int (v0_130 p1 p2 p3)), .val (.ref b45), .unset, .unset] [(.int (v0_130 p1 p2 p3)), (.int (v0_100 p1 p2 p3)), (.ref b2), (.ref b45)])) := by
    intro t k
    refine k49 t ?_
    show Steps p.tables e below (T48.setTop (mkF m 139 #[.val (.long q0), .second, .val (.int p1), .val (.int p2), .val (.int p3), .val (.ref b2), .val (.int (v0_67 p1)), .val (.int (v0_76 p2)), .val (.int (v0_86 p3)), .val (.int (v0_100 p1 p2 p3)), .val (.int (v0_114 p1 p2 p3)), .val (.int (v0_130 p1 p2 p3)), .unset, .unset, .unset] [(.ref b45)])) t
    refine XS.astore X48.here hx rfl (hb hby at_139) rfl rfl (l' := #[.val (.long q0), .second, .val (.int p1), .val (.int p2), .val (.int p3), .val (.ref b2), .val (.int (v0_67 p1)), .val (.int (v0_76 p2)), .val (.int (v0_86 p3)), .val (.int (v0_100 p1 p2 p3)), .val (.int (v0_114 p1 p2 p3)), .val (.int (v0_130 p1 p2 p3)), .val (.ref b45), .unset, .unset]) rfl ?_
    show Steps p.tables e below (T48.setTop (mkF m 141 #[.val (.long q0), .second, .val (.int p1), .val (.int p2), .val (.int p3), .val (.ref b2), .val (.int (v0_67 p1)), .val (.int (v0_76 p2)), .val (.int (v0_86 p3)), .val (.int (v0_100 p1 p2 p3)), .val (.int (v0_114 p1 p2 p3)), .val (.int (v0_130 p1 p2 p3)), .val (.ref b45), .unset, .unset] [])) t
    refine XS.aload X48.here hx rfl (hb hby at_141) rfl rfl ?_
    show Steps p.tables e below (T48.setTop (mkF m 143 #[.val (.long q0), .second, .val (.int p1), .val (.int p2), .val (.int p3), .val (.ref b2), .val (.int (v0_67 p1)), .val (.int (v0_76 p2)), .val (.int (v0_86 p3)), .val (.int (v0_100 p1 p2 p3)), .val (.int (v0_114 p1 p2 p3)), .val (.int (v0_130 p1 p2 p3)), .val (.ref b45), .unset, .unset] [(.ref b45)])) t
    refine XS.aload X48.here hx rfl (hb hby at_143) rfl rfl ?_
    show Steps p.tables e below (T48.setTop (mkF m 145 #[.val (.long q0), .second, .val (.int p1), .val (.int p2), .val (.int p3), .val (.ref b2), .val (.int (v0_67 p1)), .val (.int (v0_76 p2)), .val (.int (v0_86 p3)), .val (.int (v0_100 p1 p2 p3)), .val (.int (v0_114 p1 p2 p3)), .val (.int (v0_130 p1 p2 p3)), .val (.ref b45), .unset, .unset] [(.ref b2), (.ref b45)])) t
    refine XS.iload X48.here hx rfl (hb hby at_145) rfl ?_
    show Steps p.tables e below (T48.setTop (mkF m 147 #[.val (.long q0), .second, .val (.int p1), .val (.int p2), .val (.int p3), .val (.ref b2), .val (.int (v0_67 p1)), .val (.int (v0_76 p2)), .val (.int (v0_86 p3)), .val (.int (v0_100 p1 p2 p3)), .val (.int (v0_114 p1 p2 p3)), .val (.int (v0_130 p1 p2 p3)), .val (.ref b45), .unset, .unset] [(.int (v0_100 p1 p2 p3)), (.ref b2), (.ref b45)])) t
    refine XS.iload X48.here hx rfl (hb hby at_147) rfl ?_
    exact k
  obtain ⟨cq51, kq51, q51a, q51b, q51c⟩ := isOf hZ eh48 A45
  obtain ⟨_, _, ⟨T51, L51, kk51, n51⟩, -, X51, ⟨Lc51, hQ51, l51, y51, z51⟩, st51⟩ := X48.virtualBack hx (y := (⟨"com/example/dosewire/dosewire/server/net/RequestHead$End", "endsIn", "([BII)Z"⟩ : MethodName)) (z := (⟨"com/example/dosewire/dosewire/server/net/RequestHead$End", "endsIn", "([BII)Z"⟩ : MethodName)) hown (mvT hZ (hw _ (List.mem_of_getElem? (i := 22) rfl))) (mvT hZ (hw _ (List.mem_of_getElem? (i := 23) rfl))) (notFace_of_selects (args := #[]) (mvT hZ (hw _ (List.mem_of_getElem? (i := 25) rfl)))) (mvT hZ (hw _ (List.mem_of_getElem? (i := 25) rfl))) (mvT hZ (hw _ (List.mem_of_getElem? (i := 24) rfl))) (by decide) (backOf (W := 0) (rm6 l Z a0 hw [] b45 b2 (v0_100 p1 p2 p3) (v0_130 p1 p2 p3) (0 : Int32) (0 : Int32) (0 : Int32) (B0_59 q0) h45 n0 (Nat.le_trans (Nat.le_trans (Nat.le_trans (Nat.le_trans (Nat.le_trans (Nat.le_trans (Nat.le_trans (Nat.le_trans Z0 E2.1) (Keep.of_wr W7).1) (Keep.of_wr W12).1) (Keep.of_wr W17).1) (Keep.of_wr W22).1) (Keep.of_wr W27).1) (Keep.of_wr W32).1) E45.1) g_b45 A45 F_lineBytes_b45 F_crFirst_b45 F_requestLine_b45 (V32'.ext E45) (Ne.symm (Nat.ne_of_lt (Nat.lt_of_lt_of_le V32'.lt (Nat.le_of_eq g45.symm)))) (own_rng1 p1 p2 p3)) hZ (hw _ (List.mem_of_getElem? (i := 26) rfl)) (hw _ (List.mem_of_getElem? (i := 15) rfl)) (by decide) (by decide)) q51a q51c (g := (mkF m 149 #[.val (.long q0), .second, .val (.int p1), .val (.int p2), .val (.int p3), .val (.ref b2), .val (.int (v0_67 p1)), .val (.int (v0_76 p2)), .val (.int (v0_86 p3)), .val (.int (v0_100 p1 p2 p3)), .val (.int (v0_114 p1 p2 p3)), .val (.int (v0_130 p1 p2 p3)), .val (.ref b45), .unset, .unset] [(.int (v0_130 p1 p2 p3)), (.int (v0_100 p1 p2 p3)), (.ref b2), (.ref b45)])) rfl (by rw [hml]; rfl) (Steps.refl _) (argsL := [(.ref b2), (.int (v0_100 p1 p2 p3)), (.int (v0_130 p1 p2 p3))]) (rest := []) (lenOf pd_1 rfl) rfl (by show 2 * 0 + _ ≤ _; exact Nat.le_of_eq rfl) (hb hby at_149) (fun _ _ => ⟨rfl, eh48, (by decide : 2 + 0 ≤ _), (by decide : 9 + 0 ≤ _)⟩)
  dsimp only [Pt.U, Pt.locs, Pt.cells, Pt.slots] at X51 l51 y51 z51 st51 hQ51
  subst l51 y51 z51
  obtain ⟨rfl, N51q, Kq51, gE51, gF_lineBytes51, gF_crFirst51, gF_requestLine51⟩ := hQ51
  have N51 := Fr.app N48 N51q
  have k52 : own_Go p e below (s₁.setTop (entryFrame m #[(.long q0), (.int p1), (.int p2), (.int p3)] maxLocals)) (T51.setTop (mkF m 152 #[.val (.long q0), .second, .val (.int p1), .val (.int p2), .val (.int p3), .val (.ref b2), .val (.int (v0_67 p1)), .val (.int (v0_76 p2)), .val (.int (v0_86 p3)), .val (.int (v0_100 p1 p2 p3)), .val (.int (v0_114 p1 p2 p3)), .val (.int (v0_130 p1 p2 p3)), .val (.ref b45), .unset, .unset] [(.int ((endsF (B0_59 q0) ((v0_130 p1 p2 p3).toInt - (v0_100 p1 p2 p3).toInt).toNat (v0_100 p1 p2 p3) (0 : Int32) (0 : Int32) (0 : Int32)).1))])) := fun t k => k50 t (st51.trans k)
  have k53 : own_Go p e below (s₁.setTop (entryFrame m #[(.long q0), (.int p1), (.int p2), (.int p3)] maxLocals)) (T51.setTop (mkF m 156 #[.val (.long q0), .second, .val (.int p1), .val (.int p2), .val (.int p3), .val (.ref b2), .val (.int (v0_67 p1)), .val (.int (v0_76 p2)), .val (.int (v0_86 p3)), .val (.int (v0_100 p1 p2 p3)), .val (.int (v0_114 p1 p2 p3)), .val (.int (v0_130 p1 p2 p3)), .val (.ref b45), .val (.int (v0_152 q0 p1 p2 p3)), .unset] [(.int (v0_152 q0 p1 p2 p3))])) := by
    intro t k
    refine k52 t ?_
    show Steps p.tables e below (T51.setTop (mkF m 152 #[.val (.long q0), .second, .val (.int p1), .val (.int p2), .val (.int p3), .val (.ref b2), .val (.int (v0_67 p1)), .val (.int (v0_76 p2)), .val (.int (v0_86 p3)), .val (.int (v0_100 p1 p2 p3)), .val (.int (v0_114 p1 p2 p3)), .val (.int (v0_130 p1 p2 p3)), .val (.ref b45), .unset, .unset] [(.int ((endsF (B0_59 q0) ((v0_130 p1 p2 p3).toInt - (v0_100 p1 p2 p3).toInt).toNat (v0_100 p1 p2 p3) (0 : Int32) (0 : Int32) (0 : Int32)).1))])) t
    refine XS.istore X51.here hx rfl (hb hby at_152) rfl (l' := #[.val (.long q0), .second, .val (.int p1), .val (.int p2), .val (.int p3), .val (.ref b2), .val (.int (v0_67 p1)), .val (.int (v0_76 p2)), .val (.int (v0_86 p3)), .val (.int (v0_100 p1 p2 p3)), .val (.int (v0_114 p1 p2 p3)), .val (.int (v0_130 p1 p2 p3)), .val (.ref b45), .val (.int (v0_152 q0 p1 p2 p3)), .unset]) rfl ?_
    show Steps p.tables e below (T51.setTop (mkF m 154 #[.val (.long q0), .second, .val (.int p1), .val (.int p2), .val (.int p3), .val (.ref b2), .val (.int (v0_67 p1)), .val (.int (v0_76 p2)), .val (.int (v0_86 p3)), .val (.int (v0_100 p1 p2 p3)), .val (.int (v0_114 p1 p2 p3)), .val (.int (v0_130 p1 p2 p3)), .val (.ref b45), .val (.int (v0_152 q0 p1 p2 p3)), .unset] [])) t
    refine XS.iload X51.here hx rfl (hb hby at_154) rfl ?_
    exact k
  by_cases hc156_54 : (v0_152 q0 p1 p2 p3) = (0 : Int32)
  · have k55 : own_Go p e below (s₁.setTop (entryFrame m #[(.long q0), (.int p1), (.int p2), (.int p3)] maxLocals)) (T51.setTop (mkF m 167 #[.val (.long q0), .second, .val (.int p1), .val (.int p2), .val (.int p3), .val (.ref b2), .val (.int (v0_67 p1)), .val (.int (v0_76 p2)), .val (.int (v0_86 p3)), .val (.int (v0_100 p1 p2 p3)), .val (.int (v0_114 p1 p2 p3)), .val (.int (v0_130 p1 p2 p3)), .val (.ref b45), .val (.int (v0_152 q0 p1 p2 p3)), .unset] [(.int (v0_114 p1 p2 p3)), (.int (v0_130 p1 p2 p3)), (.ref b2), (.ref b45)])) := by
      intro t k
      refine k53 t ?_
      show Steps p.tables e below (T51.setTop (mkF m 156 #[.val (.long q0), .second, .val (.int p1), .val (.int p2), .val (.int p3), .val (.ref b2), .val (.int (v0_67 p1)), .val (.int (v0_76 p2)), .val (.int (v0_86 p3)), .val (.int (v0_100 p1 p2 p3)), .val (.int (v0_114 p1 p2 p3)), .val (.int (v0_130 p1 p2 p3)), .val (.ref b45), .val (.int (v0_152 q0 p1 p2 p3)), .unset] [(.int (v0_152 q0 p1 p2 p3))])) t
      refine XS.ifNo X51.here hx rfl (hb hby at_156) rfl ((if0 _ _).trans (teq hc156_54).2) ?_
      show Steps p.tables e below (T51.setTop (mkF m 159 #[.val (.long q0), .second, .val (.int p1), .val (.int p2), .val (.int p3), .val (.ref b2), .val (.int (v0_67 p1)), .val (.int (v0_76 p2)), .val (.int (v0_86 p3)), .val (.int (v0_100 p1 p2 p3)), .val (.int (v0_114 p1 p2 p3)), .val (.int (v0_130 p1 p2 p3)), .val (.ref b45), .val (.int (v0_152 q0 p1 p2 p3)), .unset] [])) t
      refine XS.aload X51.here hx rfl (hb hby at_159) rfl rfl ?_
      show Steps p.tables e below (T51.setTop (mkF m 161 #[.val (.long q0), .second, .val (.int p1), .val (.int p2), .val (.int p3), .val (.ref b2), .val (.int (v0_67 p1)), .val (.int (v0_76 p2)), .val (.int (v0_86 p3)), .val (.int (v0_100 p1 p2 p3)), .val (.int (v0_114 p1 p2 p3)), .val (.int (v0_130 p1 p2 p3)), .val (.ref b45), .val (.int (v0_152 q0 p1 p2 p3)), .unset] [(.ref b45)])) t
      refine XS.aload X51.here hx rfl (hb hby at_161) rfl rfl ?_
      show Steps p.tables e below (T51.setTop (mkF m 163 #[.val (.long q0), .second, .val (.int p1), .val (.int p2), .val (.int p3), .val (.ref b2), .val (.int (v0_67 p1)), .val (.int (v0_76 p2)), .val (.int (v0_86 p3)), .val (.int (v0_100 p1 p2 p3)), .val (.int (v0_114 p1 p2 p3)), .val (.int (v0_130 p1 p2 p3)), .val (.ref b45), .val (.int (v0_152 q0 p1 p2 p3)), .unset] [(.ref b2), (.ref b45)])) t
      refine XS.iload X51.here hx rfl (hb hby at_163) rfl ?_
      show Steps p.tables e below (T51.setTop (mkF m 165 #[.val (.long q0), .second, .val (.int p1), .val (.int p2), .val (.int p3), .val (.ref b2), .val (.int (v0_67 p1)), .val (.int (v0_76 p2)), .val (.int (v0_86 p3)), .val (.int (v0_100 p1 p2 p3)), .val (.int (v0_114 p1 p2 p3)), .val (.int (v0_130 p1 p2 p3)), .val (.ref b45), .val (.int (v0_152 q0 p1 p2 p3)), .unset] [(.int (v0_130 p1 p2 p3)), (.ref b2), (.ref b45)])) t
      refine XS.iload X51.here hx rfl (hb hby at_165) rfl ?_
      exact k
    obtain ⟨cq56, kq56, q56a, q56b, q56c⟩ := isOf hZ rfl gE51
    obtain ⟨_, _, ⟨T56, L56, kk56, n56⟩, -, X56, ⟨Lc56, hQ56, l56, y56, z56⟩, st56⟩ := X51.virtualBack hx (y := (⟨"com/example/dosewire/dosewire/server/net/RequestHead$End", "endsIn", "([BII)Z"⟩ : MethodName)) (z := (⟨"com/example/dosewire/dosewire/server/net/RequestHead$End", "endsIn", "([BII)Z"⟩ : MethodName)) hown (mvT hZ (hw _ (List.mem_of_getElem? (i := 22) rfl))) (mvT hZ (hw _ (List.mem_of_getElem? (i := 23) rfl))) (notFace_of_selects (args := #[]) (mvT hZ (hw _ (List.mem_of_getElem? (i := 25) rfl)))) (mvT hZ (hw _ (List.mem_of_getElem? (i := 25) rfl))) (mvT hZ (hw _ (List.mem_of_getElem? (i := 24) rfl))) (by decide) (backOf (W := 0) (rm6 l Z a0 hw [] b45 b2 (v0_130 p1 p2 p3) (v0_114 p1 p2 p3) (w0_149_lineBytes q0 p1 p2 p3) (w0_149_crFirst q0 p1 p2 p3) (w0_149_requestLine q0 p1 p2 p3) (B0_59 q0) T51.heap n0 (Nat.le_trans (Nat.le_trans (Nat.le_trans (Nat.le_trans (Nat.le_trans (Nat.le_trans (Nat.le_trans (Nat.le_trans (Nat.le_trans Z0 E2.1) (Keep.of_wr W7).1) (Keep.of_wr W12).1) (Keep.of_wr W17).1) (Keep.of_wr W22).1) (Keep.of_wr W27).1) (Keep.of_wr W32).1) E45.1) Kq51.1) g_b45 gE51 gF_lineBytes51 gF_crFirst51 gF_requestLine51 ((V32'.ext E45).keep Kq51 (ninS (Nat.ne_of_lt (Nat.lt_of_lt_of_le V32'.lt (Nat.le_of_eq g45.symm))) nin0)) (Ne.symm (Nat.ne_of_lt (Nat.lt_of_lt_of_le V32'.lt (Nat.le_of_eq g45.symm)))) (own_rng2 p1 p2 p3)) hZ (hw _ (List.mem_of_getElem? (i := 26) rfl)) (hw _ (List.mem_of_getElem? (i := 15) rfl)) (by decide) (by decide)) q56a q56c (g := (mkF m 167 #[.val (.long q0), .second, .val (.int p1), .val (.int p2), .val (.int p3), .val (.ref b2), .val (.int (v0_67 p1)), .val (.int (v0_76 p2)), .val (.int (v0_86 p3)), .val (.int (v0_100 p1 p2 p3)), .val (.int (v0_114 p1 p2 p3)), .val (.int (v0_130 p1 p2 p3)), .val (.ref b45), .val (.int (v0_152 q0 p1 p2 p3)), .unset] [(.int (v0_114 p1 p2 p3)), (.int (v0_130 p1 p2 p3)), (.ref b2), (.ref b45)])) rfl (by rw [hml]; rfl) (Steps.refl _) (argsL := [(.ref b2), (.int (v0_130 p1 p2 p3)), (.int (v0_114 p1 p2 p3))]) (rest := []) (lenOf pd_1 rfl) rfl (by show 2 * 0 + _ ≤ _; exact Nat.le_of_eq rfl) (hb hby at_167) (fun _ _ => ⟨rfl, rfl, (by decide : 2 + 0 ≤ _), (by decide : 9 + 0 ≤ _)⟩)
    dsimp only [Pt.U, Pt.locs, Pt.cells, Pt.slots] at X56 l56 y56 z56 st56 hQ56
    subst l56 y56 z56
    obtain ⟨rfl, N56q, Kq56, gE56, gF_lineBytes56, gF_crFirst56, gF_requestLine56⟩ := hQ56
    have N56 := Fr.app N51 N56q
    have k57 : own_Go p e below (s₁.setTop (entryFrame m #[(.long q0), (.int p1), (.int p2), (.int p3)] maxLocals)) (T56.setTop (mkF m 170 #[.val (.long q0), .second, .val (.int p1), .val (.int p2), .val (.int p3), .val (.ref b2), .val (.int (v0_67 p1)), .val (.int (v0_76 p2)), .val (.int (v0_86 p3)), .val (.int (v0_100 p1 p2 p3)), .val (.int (v0_114 p1 p2 p3)), .val (.int (v0_130 p1 p2 p3)), .val (.ref b45), .val (.int (v0_152 q0 p1 p2 p3)), .unset] [(.int ((endsF (B0_59 q0) ((v0_114 p1 p2 p3).toInt - (v0_130 p1 p2 p3).toInt).toNat (v0_130 p1 p2 p3) (w0_149_lineBytes q0 p1 p2 p3) (w0_149_crFirst q0 p1 p2 p3) (w0_149_requestLine q0 p1 p2 p3)).1))])) := fun t k => k55 t (st56.trans k)
    by_cases hc170_58 : ((endsF (B0_59 q0) ((v0_114 p1 p2 p3).toInt - (v0_130 p1 p2 p3).toInt).toNat (v0_130 p1 p2 p3) (w0_149_lineBytes q0 p1 p2 p3) (w0_149_crFirst q0 p1 p2 p3) (w0_149_requestLine q0 p1 p2 p3)).1) = (0 : Int32)
    · have k59 : own_Go p e below (s₁.setTop (entryFrame m #[(.long q0), (.int p1), (.int p2), (.int p3)] maxLocals)) (T56.setTop (mkF m 188 #[.val (.long q0), .second, .val (.int p1), .val (.int p2), .val (.int p3), .val (.ref b2), .val (.int (v0_67 p1)), .val (.int (v0_76 p2)), .val (.int (v0_86 p3)), .val (.int (v0_100 p1 p2 p3)), .val (.int (v0_114 p1 p2 p3)), .val (.int (v0_130 p1 p2 p3)), .val (.ref b45), .val (.int (v0_152 q0 p1 p2 p3)), .val (.int (0 : Int32))] [(.int (v0_130 p1 p2 p3)), (.int (v0_100 p1 p2 p3)), (.ref b2), (.int (v0_152 q0 p1 p2 p3))])) := by
        intro t k
        refine k57 t ?_
        show Steps p.tables e below (T56.setTop (mkF m 170 #[.val (.long q0), .second, .val (.int p1), .val (.int p2), .val (.int p3), .val (.ref b2), .val (.int (v0_67 p1)), .val (.int (v0_76 p2)), .val (.int (v0_86 p3)), .val (.int (v0_100 p1 p2 p3)), .val (.int (v0_114 p1 p2 p3)), .val (.int (v0_130 p1 p2 p3)), .val (.ref b45), .val (.int (v0_152 q0 p1 p2 p3)), .unset] [(.int ((endsF (B0_59 q0) ((v0_114 p1 p2 p3).toInt - (v0_130 p1 p2 p3).toInt).toNat (v0_130 p1 p2 p3) (w0_149_lineBytes q0 p1 p2 p3) (w0_149_crFirst q0 p1 p2 p3) (w0_149_requestLine q0 p1 p2 p3)).1))])) t
        refine XS.ifYes X56.here hx rfl (pc0 := 170) (pc' := 177) rfl (hb hby at_170) rfl ((if0 _ _).trans (teq hc170_58).1) (by decide) (by decide) ?_
        show Steps p.tables e below (T56.setTop (mkF m 177 #[.val (.long q0), .second, .val (.int p1), .val (.int p2), .val (.int p3), .val (.ref b2), .val (.int (v0_67 p1)), .val (.int (v0_76 p2)), .val (.int (v0_86 p3)), .val (.int (v0_100 p1 p2 p3)), .val (.int (v0_114 p1 p2 p3)), .val (.int (v0_130 p1 p2 p3)), .val (.ref b45), .val (.int (v0_152 q0 p1 p2 p3)), .unset] [])) t
        refine XS.iconst X56.here hx rfl (hb hby at_177) ?_
        show Steps p.tables e below (T56.setTop (mkF m 178 #[.val (.long q0), .second, .val (.int p1), .val (.int p2), .val (.int p3), .val (.ref b2), .val (.int (v0_67 p1)), .val (.int (v0_76 p2)), .val (.int (v0_86 p3)), .val (.int (v0_100 p1 p2 p3)), .val (.int (v0_114 p1 p2 p3)), .val (.int (v0_130 p1 p2 p3)), .val (.ref b45), .val (.int (v0_152 q0 p1 p2 p3)), .unset] [(.int (0 : Int32))])) t
        refine XS.istore X56.here hx rfl (hb hby at_178) rfl (l' := #[.val (.long q0), .second, .val (.int p1), .val (.int p2), .val (.int p3), .val (.ref b2), .val (.int (v0_67 p1)), .val (.int (v0_76 p2)), .val (.int (v0_86 p3)), .val (.int (v0_100 p1 p2 p3)), .val (.int (v0_114 p1 p2 p3)), .val (.int (v0_130 p1 p2 p3)), .val (.ref b45), .val (.int (v0_152 q0 p1 p2 p3)), .val (.int (0 : Int32))]) rfl ?_
        show Steps p.tables e below (T56.setTop (mkF m 180 #[.val (.long q0), .second, .val (.int p1), .val (.int p2), .val (.int p3), .val (.ref b2), .val (.int (v0_67 p1)), .val (.int (v0_76 p2)), .val (.int (v0_86 p3)), .val (.int (v0_100 p1 p2 p3)), .val (.int (v0_114 p1 p2 p3)), .val (.int (v0_130 p1 p2 p3)), .val (.ref b45), .val (.int (v0_152 q0 p1 p2 p3)), .val (.int (0 : Int32))] [])) t
        refine XS.iload X56.here hx rfl (hb hby at_180) rfl ?_
        show Steps p.tables e below (T56.setTop (mkF m 182 #[.val (.long q0), .second, .val (.int p1), .val (.int p2), .val (.int p3), .val (.ref b2), .val (.int (v0_67 p1)), .val (.int (v0_76 p2)), .val (.int (v0_86 p3)), .val (.int (v0_100 p1 p2 p3)), .val (.int (v0_114 p1 p2 p3)), .val (.int (v0_130 p1 p2 p3)), .val (.ref b45), .val (.int (v0_152 q0 p1 p2 p3)), .val (.int (0 : Int32))] [(.int (v0_152 q0 p1 p2 p3))])) t
        refine XS.aload X56.here hx rfl (hb hby at_182) rfl rfl ?_
        show Steps p.tables e below (T56.setTop (mkF m 184 #[.val (.long q0), .second, .val (.int p1), .val (.int p2), .val (.int p3), .val (.ref b2), .val (.int (v0_67 p1)), .val (.int (v0_76 p2)), .val (.int (v0_86 p3)), .val (.int (v0_100 p1 p2 p3)), .val (.int (v0_114 p1 p2 p3)), .val (.int (v0_130 p1 p2 p3)), .val (.ref b45), .val (.int (v0_152 q0 p1 p2 p3)), .val (.int (0 : Int32))] [(.ref b2), (.int (v0_152 q0 p1 p2 p3))])) t
        refine XS.iload X56.here hx rfl (hb hby at_184) rfl ?_
        show Steps p.tables e below (T56.setTop (mkF m 186 #[.val (.long q0), .second, .val (.int p1), .val (.int p2), .val (.int p3), .val (.ref b2), .val (.int (v0_67 p1)), .val (.int (v0_76 p2)), .val (.int (v0_86 p3)), .val (.int (v0_100 p1 p2 p3)), .val (.int (v0_114 p1 p2 p3)), .val (.int (v0_130 p1 p2 p3)), .val (.ref b45), .val (.int (v0_152 q0 p1 p2 p3)), .val (.int (0 : Int32))] [(.int (v0_100 p1 p2 p3)), (.ref b2), (.int (v0_152 q0 p1 p2 p3))])) t
        refine XS.iload X56.here hx rfl (hb hby at_186) rfl ?_
        exact k
      obtain ⟨_, _, ⟨T60, L60, kk60, n60⟩, -, X60, ⟨Lc60, hQ60, l60, y60, z60⟩, st60⟩ := Jvm.LawKit.callS X56 hx (y := (⟨"com/example/dosewire/dosewire/server/net/EndEndsInPinLaw", "ends", "([BII)Z"⟩ : MethodName)) hown (mvT hZ (hw _ (List.mem_of_getElem? (i := 33) rfl))) (mvT hZ (hw _ (List.mem_of_getElem? (i := 34) rfl))) (mvT hZ (hw _ (List.mem_of_getElem? (i := 3) rfl))) (mvT hZ (hw _ (List.mem_of_getElem? (i := 35) rfl))) (by decide) (backOf (W := 1) (rm7 l Z a0 hw [] b2 (v0_100 p1 p2 p3) (v0_130 p1 p2 p3) (B0_59 q0) T56.heap n0 (Nat.le_trans (Nat.le_trans (Nat.le_trans (Nat.le_trans (Nat.le_trans (Nat.le_trans (Nat.le_trans (Nat.le_trans (Nat.le_trans (Nat.le_trans Z0 E2.1) (Keep.of_wr W7).1) (Keep.of_wr W12).1) (Keep.of_wr W17).1) (Keep.of_wr W22).1) (Keep.of_wr W27).1) (Keep.of_wr W32).1) E45.1) Kq51.1) Kq56.1) (((V32'.ext E45).keep Kq51 (ninS (Nat.ne_of_lt (Nat.lt_of_lt_of_le V32'.lt (Nat.le_of_eq g45.symm))) nin0)).keep Kq56 (ninS (Nat.ne_of_lt (Nat.lt_of_lt_of_le V32'.lt (Nat.le_of_eq g45.symm))) nin0)) (own_rng1 p1 p2 p3).1) hZ (hw _ (List.mem_of_getElem? (i := 35) rfl)) (hw _ (List.mem_of_getElem? (i := 3) rfl)) (by decide) (by decide)) (g := (mkF m 188 #[.val (.long q0), .second, .val (.int p1), .val (.int p2), .val (.int p3), .val (.ref b2), .val (.int (v0_67 p1)), .val (.int (v0_76 p2)), .val (.int (v0_86 p3)), .val (.int (v0_100 p1 p2 p3)), .val (.int (v0_114 p1 p2 p3)), .val (.int (v0_130 p1 p2 p3)), .val (.ref b45), .val (.int (v0_152 q0 p1 p2 p3)), .val (.int (0 : Int32))] [(.int (v0_130 p1 p2 p3)), (.int (v0_100 p1 p2 p3)), (.ref b2), (.int (v0_152 q0 p1 p2 p3))])) rfl (by rw [hml]; rfl) (argsL := [(.ref b2), (.int (v0_100 p1 p2 p3)), (.int (v0_130 p1 p2 p3))]) (rest := [(.int (v0_152 q0 p1 p2 p3))]) (lenOf pd_1 rfl) rfl (by show 2 * 0 + _ ≤ _; exact Nat.le_of_eq rfl) (hb hby at_188) (fun _ _ => ⟨rfl, rfl, (by decide : 2 + 0 ≤ _), (by decide : 9 + 0 ≤ _)⟩)
      dsimp only [Pt.U, Pt.locs, Pt.cells, Pt.slots] at X60 l60 y60 z60 st60 hQ60
      subst l60 y60 z60
      obtain ⟨rfl, N60q, eh60⟩ := hQ60
      have N60 := Fr.app N56 N60q
      have k61 : own_Go p e below (s₁.setTop (entryFrame m #[(.long q0), (.int p1), (.int p2), (.int p3)] maxLocals)) (T60.setTop (mkF m 191 #[.val (.long q0), .second, .val (.int p1), .val (.int p2), .val (.int p3), .val (.ref b2), .val (.int (v0_67 p1)), .val (.int (v0_76 p2)), .val (.int (v0_86 p3)), .val (.int (v0_100 p1 p2 p3)), .val (.int (v0_114 p1 p2 p3)), .val (.int (v0_130 p1 p2 p3)), .val (.ref b45), .val (.int (v0_152 q0 p1 p2 p3)), .val (.int (0 : Int32))] [(.int (f7 (v0_100 p1 p2 p3) (v0_130 p1 p2 p3) (B0_59 q0))), (.int (v0_152 q0 p1 p2 p3))])) := fun t k => k59 t (st60 t k)
      by_cases hc191_62 : (v0_152 q0 p1 p2 p3) = (f7 (v0_100 p1 p2 p3) (v0_130 p1 p2 p3) (B0_59 q0))
      · have k63 : own_Go p e below (s₁.setTop (entryFrame m #[(.long q0), (.int p1), (.int p2), (.int p3)] maxLocals)) (T60.setTop (mkF m 202 #[.val (.long q0), .second, .val (.int p1), .val (.int p2), .val (.int p3), .val (.ref b2), .val (.int (v0_67 p1)), .val (.int (v0_76 p2)), .val (.int (v0_86 p3)), .val (.int (v0_100 p1 p2 p3)), .val (.int (v0_114 p1 p2 p3)), .val (.int (v0_130 p1 p2 p3)), .val (.ref b45), .val (.int (v0_152 q0 p1 p2 p3)), .val (.int (0 : Int32))] [(.int (v0_114 p1 p2 p3)), (.int (v0_100 p1 p2 p3)), (.ref b2), (.int (0 : Int32))])) := by
          intro t k
          refine k61 t ?_
          show Steps p.tables e below (T60.setTop (mkF m 191 #[.val (.long q0), .second, .val (.int p1), .val (.int p2), .val (.int p3), .val (.ref b2), .val (.int (v0_67 p1)), .val (.int (v0_76 p2)), .val (.int (v0_86 p3)), .val (.int (v0_100 p1 p2 p3)), .val (.int (v0_114 p1 p2 p3)), .val (.int (v0_130 p1 p2 p3)), .val (.ref b45), .val (.int (v0_152 q0 p1 p2 p3)), .val (.int (0 : Int32))] [(.int (f7 (v0_100 p1 p2 p3) (v0_130 p1 p2 p3) (B0_59 q0))), (.int (v0_152 q0 p1 p2 p3))])) t
          refine XS.icmpNo X60.here hx rfl (hb hby at_191) rfl (teq hc191_62).2 ?_
          show Steps p.tables e below (T60.setTop (mkF m 194 #[.val (.long q0), .second, .val (.int p1), .val (.int p2), .val (.int p3), .val (.ref b2), .val (.int (v0_67 p1)), .val (.int (v0_76 p2)), .val (.int (v0_86 p3)), .val (.int (v0_100 p1 p2 p3)), .val (.int (v0_114 p1 p2 p3)), .val (.int (v0_130 p1 p2 p3)), .val (.ref b45), .val (.int (v0_152 q0 p1 p2 p3)), .val (.int (0 : Int32))] [])) t
          refine XS.iload X60.here hx rfl (hb hby at_194) rfl ?_
          show Steps p.tables e below (T60.setTop (mkF m 196 #[.val (.long q0), .second, .val (.int p1), .val (.int p2), .val (.int p3), .val (.ref b2), .val (.int (v0_67 p1)), .val (.int (v0_76 p2)), .val (.int (v0_86 p3)), .val (.int (v0_100 p1 p2 p3)), .val (.int (v0_114 p1 p2 p3)), .val (.int (v0_130 p1 p2 p3)), .val (.ref b45), .val (.int (v0_152 q0 p1 p2 p3)), .val (.int (0 : Int32))] [(.int (0 : Int32))])) t
          refine XS.aload X60.here hx rfl (hb hby at_196) rfl rfl ?_
          show Steps p.tables e below (T60.setTop (mkF m 198 #[.val (.long q0), .second, .val (.int p1), .val (.int p2), .val (.int p3), .val (.ref b2), .val (.int (v0_67 p1)), .val (.int (v0_76 p2)), .val (.int (v0_86 p3)), .val (.int (v0_100 p1 p2 p3)), .val (.int (v0_114 p1 p2 p3)), .val (.int (v0_130 p1 p2 p3)), .val (.ref b45), .val (.int (v0_152 q0 p1 p2 p3)), .val (.int (0 : Int32))] [(.ref b2), (.int (0 : Int32))])) t
          refine XS.iload X60.here hx rfl (hb hby at_198) rfl ?_
          show Steps p.tables e below (T60.setTop (mkF m 200 #[.val (.long q0), .second, .val (.int p1), .val (.int p2), .val (.int p3), .val (.ref b2), .val (.int (v0_67 p1)), .val (.int (v0_76 p2)), .val (.int (v0_86 p3)), .val (.int (v0_100 p1 p2 p3)), .val (.int (v0_114 p1 p2 p3)), .val (.int (v0_130 p1 p2 p3)), .val (.ref b45), .val (.int (v0_152 q0 p1 p2 p3)), .val (.int (0 : Int32))] [(.int (v0_100 p1 p2 p3)), (.ref b2), (.int (0 : Int32))])) t
          refine XS.iload X60.here hx rfl (hb hby at_200) rfl ?_
          exact k
        obtain ⟨_, _, ⟨T64, L64, kk64, n64⟩, -, X64, ⟨Lc64, hQ64, l64, y64, z64⟩, st64⟩ := Jvm.LawKit.callS X60 hx (y := (⟨"com/example/dosewire/dosewire/server/net/EndEndsInPinLaw", "ends", "([BII)Z"⟩ : MethodName)) hown (mvT hZ (hw _ (List.mem_of_getElem? (i := 33) rfl))) (mvT hZ (hw _ (List.mem_of_getElem? (i := 34) rfl))) (mvT hZ (hw _ (List.mem_of_getElem? (i := 3) rfl))) (mvT hZ (hw _ (List.mem_of_getElem? (i := 35) rfl))) (by decide) (backOf (W := 1) (rm7 l Z a0 hw [] b2 (v0_100 p1 p2 p3) (v0_114 p1 p2 p3) (B0_59 q0) T56.heap n0 (Nat.le_trans (Nat.le_trans (Nat.le_trans (Nat.le_trans (Nat.le_trans (Nat.le_trans (Nat.le_trans (Nat.le_trans (Nat.le_trans (Nat.le_trans Z0 E2.1) (Keep.of_wr W7).1) (Keep.of_wr W12).1) (Keep.of_wr W17).1) (Keep.of_wr W22).1) (Keep.of_wr W27).1) (Keep.of_wr W32).1) E45.1) Kq51.1) Kq56.1) (((V32'.ext E45).keep Kq51 (ninS (Nat.ne_of_lt (Nat.lt_of_lt_of_le V32'.lt (Nat.le_of_eq g45.symm))) nin0)).keep Kq56 (ninS (Nat.ne_of_lt (Nat.lt_of_lt_of_le V32'.lt (Nat.le_of_eq g45.symm))) nin0)) (own_rng1 p1 p2 p3).1) hZ (hw _ (List.mem_of_getElem? (i := 35) rfl)) (hw _ (List.mem_of_getElem? (i := 3) rfl)) (by decide) (by decide)) (g := (mkF m 202 #[.val (.long q0), .second, .val (.int p1), .val (.int p2), .val (.int p3), .val (.ref b2), .val (.int (v0_67 p1)), .val (.int (v0_76 p2)), .val (.int (v0_86 p3)), .val (.int (v0_100 p1 p2 p3)), .val (.int (v0_114 p1 p2 p3)), .val (.int (v0_130 p1 p2 p3)), .val (.ref b45), .val (.int (v0_152 q0 p1 p2 p3)), .val (.int (0 : Int32))] [(.int (v0_114 p1 p2 p3)), (.int (v0_100 p1 p2 p3)), (.ref b2), (.int (0 : Int32))])) rfl (by rw [hml]; rfl) (argsL := [(.ref b2), (.int (v0_100 p1 p2 p3)), (.int (v0_114 p1 p2 p3))]) (rest := [(.int (0 : Int32))]) (lenOf pd_1 rfl) rfl (by show 2 * 0 + _ ≤ _; exact Nat.le_of_eq rfl) (hb hby at_202) (fun _ _ => ⟨rfl, eh60, (by decide : 2 + 0 ≤ _), (by decide : 9 + 0 ≤ _)⟩)
        dsimp only [Pt.U, Pt.locs, Pt.cells, Pt.slots] at X64 l64 y64 z64 st64 hQ64
        subst l64 y64 z64
        obtain ⟨rfl, N64q, eh64⟩ := hQ64
        have N64 := Fr.app N60 N64q
        have k65 : own_Go p e below (s₁.setTop (entryFrame m #[(.long q0), (.int p1), (.int p2), (.int p3)] maxLocals)) (T64.setTop (mkF m 205 #[.val (.long q0), .second, .val (.int p1), .val (.int p2), .val (.int p3), .val (.ref b2), .val (.int (v0_67 p1)), .val (.int (v0_76 p2)), .val (.int (v0_86 p3)), .val (.int (v0_100 p1 p2 p3)), .val (.int (v0_114 p1 p2 p3)), .val (.int (v0_130 p1 p2 p3)), .val (.ref b45), .val (.int (v0_152 q0 p1 p2 p3)), .val (.int (0 : Int32))] [(.int (f7 (v0_100 p1 p2 p3) (v0_114 p1 p2 p3) (B0_59 q0))), (.int (0 : Int32))])) := fun t k => k63 t (st64 t k)
        by_cases hc205_66 : (0 : Int32) = (f7 (v0_100 p1 p2 p3) (v0_114 p1 p2 p3) (B0_59 q0))
        · have k67 : own_Go p e below (s₁.setTop (entryFrame m #[(.long q0), (.int p1), (.int p2), (.int p3)] maxLocals)) (T64.setTop (mkF m 213 #[.val (.long q0), .second, .val (.int p1), .val (.int p2), .val (.int p3), .val (.ref b2), .val (.int (v0_67 p1)), .val (.int (v0_76 p2)), .val (.int (v0_86 p3)), .val (.int (v0_100 p1 p2 p3)), .val (.int (v0_114 p1 p2 p3)), .val (.int (v0_130 p1 p2 p3)), .val (.ref b45), .val (.int (v0_152 q0 p1 p2 p3)), .val (.int (0 : Int32))] [(.int (1 : Int32))])) := by
            intro t k
            refine k65 t ?_
            show Steps p.tables e below (T64.setTop (mkF m 205 #[.val (.long q0), .second, .val (.int p1), .val (.int p2), .val (.int p3), .val (.ref b2), .val (.int (v0_67 p1)), .val (.int (v0_76 p2)), .val (.int (v0_86 p3)), .val (.int (v0_100 p1 p2 p3)), .val (.int (v0_114 p1 p2 p3)), .val (.int (v0_130 p1 p2 p3)), .val (.ref b45), .val (.int (v0_152 q0 p1 p2 p3)), .val (.int (0 : Int32))] [(.int (f7 (v0_100 p1 p2 p3) (v0_114 p1 p2 p3) (B0_59 q0))), (.int (0 : Int32))])) t
            refine XS.icmpNo X64.here hx rfl (hb hby at_205) rfl (teq hc205_66).2 ?_
            show Steps p.tables e below (T64.setTop (mkF m 208 #[.val (.long q0), .second, .val (.int p1), .val (.int p2), .val (.int p3), .val (.ref b2), .val (.int (v0_67 p1)), .val (.int (v0_76 p2)), .val (.int (v0_86 p3)), .val (.int (v0_100 p1 p2 p3)), .val (.int (v0_114 p1 p2 p3)), .val (.int (v0_130 p1 p2 p3)), .val (.ref b45), .val (.int (v0_152 q0 p1 p2 p3)), .val (.int (0 : Int32))] [])) t
            refine XS.iconst X64.here hx rfl (hb hby at_208) ?_
            show Steps p.tables e below (T64.setTop (mkF m 209 #[.val (.long q0), .second, .val (.int p1), .val (.int p2), .val (.int p3), .val (.ref b2), .val (.int (v0_67 p1)), .val (.int (v0_76 p2)), .val (.int (v0_86 p3)), .val (.int (v0_100 p1 p2 p3)), .val (.int (v0_114 p1 p2 p3)), .val (.int (v0_130 p1 p2 p3)), .val (.ref b45), .val (.int (v0_152 q0 p1 p2 p3)), .val (.int (0 : Int32))] [(.int (1 : Int32))])) t
            refine XS.goto X64.here hx rfl (pc0 := 209) (pc' := 213) rfl (hb hby at_209) (by decide) (by decide) ?_
            exact k
          obtain ⟨fs, hr, hrun, hended, hW, hsame⟩ := X64.leave (v := some (.int (1 : Int32))) (fun h => by rw [Bd.returns] at h; cases h)
          refine ⟨_, _, k67 _ ?_, hrun, hended, _, _, rfl, ?_, ⟨_, rfl⟩, hW, hsame.mono (by decide) (by decide)⟩
          · exact retN X64 hx (t := .boolean) Bd.returns (by simp) (hb hby at_213) hr
          · show Q0 Z q0 p1 p2 p3 h0 n0 _ T64.heap _
            rw [eh64]
            exact ⟨congrArg (fun z => some (Value.int z)) (show f0 q0 p1 p2 p3 = (1 : Int32) from (by unfold f0; rw [if_pos hc156_54, if_pos hc170_58, if_pos hc191_62, if_pos hc205_66])).symm, N64⟩
        · have k68 : own_Go p e below (s₁.setTop (entryFrame m #[(.long q0), (.int p1), (.int p2), (.int p3)] maxLocals)) (T64.setTop (mkF m 213 #[.val (.long q0), .second, .val (.int p1), .val (.int p2), .val (.int p3), .val (.ref b2), .val (.int (v0_67 p1)), .val (.int (v0_76 p2)), .val (.int (v0_86 p3)), .val (.int (v0_100 p1 p2 p3)), .val (.int (v0_114 p1 p2 p3)), .val (.int (v0_130 p1 p2 p3)), .val (.ref b45), .val (.int (v0_152 q0 p1 p2 p3)), .val (.int (0 : Int32))] [(.int (0 : Int32))])) := by
            intro t k
            refine k65 t ?_
            show Steps p.tables e below (T64.setTop (mkF m 205 #[.val (.long q0), .second, .val (.int p1), .val (.int p2), .val (.int p3), .val (.ref b2), .val (.int (v0_67 p1)), .val (.int (v0_76 p2)), .val (.int (v0_86 p3)), .val (.int (v0_100 p1 p2 p3)), .val (.int (v0_114 p1 p2 p3)), .val (.int (v0_130 p1 p2 p3)), .val (.ref b45), .val (.int (v0_152 q0 p1 p2 p3)), .val (.int (0 : Int32))] [(.int (f7 (v0_100 p1 p2 p3) (v0_114 p1 p2 p3) (B0_59 q0))), (.int (0 : Int32))])) t
            refine XS.icmpYes X64.here hx rfl (pc0 := 205) (pc' := 212) rfl (hb hby at_205) rfl (feq hc205_66).2 (by decide) (by decide) ?_
            show Steps p.tables e below (T64.setTop (mkF m 212 #[.val (.long q0), .second, .val (.int p1), .val (.int p2), .val (.int p3), .val (.ref b2), .val (.int (v0_67 p1)), .val (.int (v0_76 p2)), .val (.int (v0_86 p3)), .val (.int (v0_100 p1 p2 p3)), .val (.int (v0_114 p1 p2 p3)), .val (.int (v0_130 p1 p2 p3)), .val (.ref b45), .val (.int (v0_152 q0 p1 p2 p3)), .val (.int (0 : Int32))] [])) t
            refine XS.iconst X64.here hx rfl (hb hby at_212) ?_
            exact k
          obtain ⟨fs, hr, hrun, hended, hW, hsame⟩ := X64.leave (v := some (.int (0 : Int32))) (fun h => by rw [Bd.returns] at h; cases h)
          refine ⟨_, _, k68 _ ?_, hrun, hended, _, _, rfl, ?_, ⟨_, rfl⟩, hW, hsame.mono (by decide) (by decide)⟩
          · exact retN X64 hx (t := .boolean) Bd.returns (by simp) (hb hby at_213) hr
          · show Q0 Z q0 p1 p2 p3 h0 n0 _ T64.heap _
            rw [eh64]
            exact ⟨congrArg (fun z => some (Value.int z)) (show f0 q0 p1 p2 p3 = (0 : Int32) from (by unfold f0; rw [if_pos hc156_54, if_pos hc170_58, if_pos hc191_62, if_neg hc205_66])).symm, N64⟩
      · have k69 : own_Go p e below (s₁.setTop (entryFrame m #[(.long q0), (.int p1), (.int p2), (.int p3)] maxLocals)) (T60.setTop (mkF m 213 #[.val (.long q0), .second, .val (.int p1), .val (.int p2), .val (.int p3), .val (.ref b2), .val (.int (v0_67 p1)), .val (.int (v0_76 p2)), .val (.int (v0_86 p3)), .val (.int (v0_100 p1 p2 p3)), .val (.int (v0_114 p1 p2 p3)), .val (.int (v0_130 p1 p2 p3)), .val (.ref b45), .val (.int (v0_152 q0 p1 p2 p3)), .val (.int (0 : Int32))] [(.int (0 : Int32))])) := by
          intro t k
          refine k61 t ?_
          show Steps p.tables e below (T60.setTop (mkF m 191 #[.val (.long q0), .second, .val (.int p1), .val (.int p2), .val (.int p3), .val (.ref b2), .val (.int (v0_67 p1)), .val (.int (v0_76 p2)), .val (.int (v0_86 p3)), .val (.int (v0_100 p1 p2 p3)), .val (.int (v0_114 p1 p2 p3)), .val (.int (v0_130 p1 p2 p3)), .val (.ref b45), .val (.int (v0_152 q0 p1 p2 p3)), .val (.int (0 : Int32))] [(.int (f7 (v0_100 p1 p2 p3) (v0_130 p1 p2 p3) (B0_59 q0))), (.int (v0_152 q0 p1 p2 p3))])) t
          refine XS.icmpYes X60.here hx rfl (pc0 := 191) (pc' := 212) rfl (hb hby at_191) rfl (feq hc191_62).2 (by decide) (by decide) ?_
          show Steps p.tables e below (T60.setTop (mkF m 212 #[.val (.long q0), .second, .val (.int p1), .val (.int p2), .val (.int p3), .val (.ref b2), .val (.int (v0_67 p1)), .val (.int (v0_76 p2)), .val (.int (v0_86 p3)), .val (.int (v0_100 p1 p2 p3)), .val (.int (v0_114 p1 p2 p3)), .val (.int (v0_130 p1 p2 p3)), .val (.ref b45), .val (.int (v0_152 q0 p1 p2 p3)), .val (.int (0 : Int32))] [])) t
          refine XS.iconst X60.here hx rfl (hb hby at_212) ?_
          exact k
        obtain ⟨fs, hr, hrun, hended, hW, hsame⟩ := X60.leave (v := some (.int (0 : Int32))) (fun h => by rw [Bd.returns] at h; cases h)
        refine ⟨_, _, k69 _ ?_, hrun, hended, _, _, rfl, ?_, ⟨_, rfl⟩, hW, hsame.mono (by decide) (by decide)⟩
        · exact retN X60 hx (t := .boolean) Bd.returns (by simp) (hb hby at_213) hr
        · show Q0 Z q0 p1 p2 p3 h0 n0 _ T60.heap _
          rw [eh60]
          exact ⟨congrArg (fun z => some (Value.int z)) (show f0 q0 p1 p2 p3 = (0 : Int32) from (by unfold f0; rw [if_pos hc156_54, if_pos hc170_58, if_neg hc191_62])).symm, N60⟩
    · have k70 : own_Go p e below (s₁.setTop (entryFrame m #[(.long q0), (.int p1), (.int p2), (.int p3)] maxLocals)) (T56.setTop (mkF m 188 #[.val (.long q0), .second, .val (.int p1), .val (.int p2), .val (.int p3), .val (.ref b2), .val (.int (v0_67 p1)), .val (.int (v0_76 p2)), .val (.int (v0_86 p3)), .val (.int (v0_100 p1 p2 p3)), .val (.int (v0_114 p1 p2 p3)), .val (.int (v0_130 p1 p2 p3)), .val (.ref b45), .val (.int (v0_152 q0 p1 p2 p3)), .val (.int (1 : Int32))] [(.int (v0_130 p1 p2 p3)), (.int (v0_100 p1 p2 p3)), (.ref b2), (.int (v0_152 q0 p1 p2 p3))])) := by
        intro t k
        refine k57 t ?_
        show Steps p.tables e below (T56.setTop (mkF m 170 #[.val (.long q0), .second, .val (.int p1), .val (.int p2), .val (.int p3), .val (.ref b2), .val (.int (v0_67 p1)), .val (.int (v0_76 p2)), .val (.int (v0_86 p3)), .val (.int (v0_100 p1 p2 p3)), .val (.int (v0_114 p1 p2 p3)), .val (.int (v0_130 p1 p2 p3)), .val (.ref b45), .val (.int (v0_152 q0 p1 p2 p3)), .unset] [(.int ((endsF (B0_59 q0) ((v0_114 p1 p2 p3).toInt - (v0_130 p1 p2 p3).toInt).toNat (v0_130 p1 p2 p3) (w0_149_lineBytes q0 p1 p2 p3) (w0_149_crFirst q0 p1 p2 p3) (w0_149_requestLine q0 p1 p2 p3)).1))])) t
        refine XS.ifNo X56.here hx rfl (hb hby at_170) rfl ((if0 _ _).trans (feq hc170_58).1) ?_
        show Steps p.tables e below (T56.setTop (mkF m 173 #[.val (.long q0), .second, .val (.int p1), .val (.int p2), .val (.int p3), .val (.ref b2), .val (.int (v0_67 p1)), .val (.int (v0_76 p2)), .val (.int (v0_86 p3)), .val (.int (v0_100 p1 p2 p3)), .val (.int (v0_114 p1 p2 p3)), .val (.int (v0_130 p1 p2 p3)), .val (.ref b45), .val (.int (v0_152 q0 p1 p2 p3)), .unset] [])) t
        refine XS.iconst X56.here hx rfl (hb hby at_173) ?_
        show Steps p.tables e below (T56.setTop (mkF m 174 #[.val (.long q0), .second, .val (.int p1), .val (.int p2), .val (.int p3), .val (.ref b2), .val (.int (v0_67 p1)), .val (.int (v0_76 p2)), .val (.int (v0_86 p3)), .val (.int (v0_100 p1 p2 p3)), .val (.int (v0_114 p1 p2 p3)), .val (.int (v0_130 p1 p2 p3)), .val (.ref b45), .val (.int (v0_152 q0 p1 p2 p3)), .unset] [(.int (1 : Int32))])) t
        refine XS.goto X56.here hx rfl (pc0 := 174) (pc' := 178) rfl (hb hby at_174) (by decide) (by decide) ?_
        show Steps p.tables e below (T56.setTop (mkF m 178 #[.val (.long q0), .second, .val (.int p1), .val (.int p2), .val (.int p3), .val (.ref b2), .val (.int (v0_67 p1)), .val (.int (v0_76 p2)), .val (.int (v0_86 p3)), .val (.int (v0_100 p1 p2 p3)), .val (.int (v0_114 p1 p2 p3)), .val (.int (v0_130 p1 p2 p3)), .val (.ref b45), .val (.int (v0_152 q0 p1 p2 p3)), .unset] [(.int (1 : Int32))])) t
        refine XS.istore X56.here hx rfl (hb hby at_178) rfl (l' := #[.val (.long q0), .second, .val (.int p1), .val (.int p2), .val (.int p3), .val (.ref b2), .val (.int (v0_67 p1)), .val (.int (v0_76 p2)), .val (.int (v0_86 p3)), .val (.int (v0_100 p1 p2 p3)), .val (.int (v0_114 p1 p2 p3)), .val (.int (v0_130 p1 p2 p3)), .val (.ref b45), .val (.int (v0_152 q0 p1 p2 p3)), .val (.int (1 : Int32))]) rfl ?_
        show Steps p.tables e below (T56.setTop (mkF m 180 #[.val (.long q0), .second, .val (.int p1), .val (.int p2), .val (.int p3), .val (.ref b2), .val (.int (v0_67 p1)), .val (.int (v0_76 p2)), .val (.int (v0_86 p3)), .val (.int (v0_100 p1 p2 p3)), .val (.int (v0_114 p1 p2 p3)), .val (.int (v0_130 p1 p2 p3)), .val (.ref b45), .val (.int (v0_152 q0 p1 p2 p3)), .val (.int (1 : Int32))] [])) t
        refine XS.iload X56.here hx rfl (hb hby at_180) rfl ?_
        show Steps p.tables e below (T56.setTop (mkF m 182 #[.val (.long q0), .second, .val (.int p1), .val (.int p2), .val (.int p3), .val (.ref b2), .val (.int (v0_67 p1)), .val (.int (v0_76 p2)), .val (.int (v0_86 p3)), .val (.int (v0_100 p1 p2 p3)), .val (.int (v0_114 p1 p2 p3)), .val (.int (v0_130 p1 p2 p3)), .val (.ref b45), .val (.int (v0_152 q0 p1 p2 p3)), .val (.int (1 : Int32))] [(.int (v0_152 q0 p1 p2 p3))])) t
        refine XS.aload X56.here hx rfl (hb hby at_182) rfl rfl ?_
        show Steps p.tables e below (T56.setTop (mkF m 184 #[.val (.long q0), .second, .val (.int p1), .val (.int p2), .val (.int p3), .val (.ref b2), .val (.int (v0_67 p1)), .val (.int (v0_76 p2)), .val (.int (v0_86 p3)), .val (.int (v0_100 p1 p2 p3)), .val (.int (v0_114 p1 p2 p3)), .val (.int (v0_130 p1 p2 p3)), .val (.ref b45), .val (.int (v0_152 q0 p1 p2 p3)), .val (.int (1 : Int32))] [(.ref b2), (.int (v0_152 q0 p1 p2 p3))])) t
        refine XS.iload X56.here hx rfl (hb hby at_184) rfl ?_
        show Steps p.tables e below (T56.setTop (mkF m 186 #[.val (.long q0), .second, .val (.int p1), .val (.int p2), .val (.int p3), .val (.ref b2), .val (.int (v0_67 p1)), .val (.int (v0_76 p2)), .val (.int (v0_86 p3)), .val (.int (v0_100 p1 p2 p3)), .val (.int (v0_114 p1 p2 p3)), .val (.int (v0_130 p1 p2 p3)), .val (.ref b45), .val (.int (v0_152 q0 p1 p2 p3)), .val (.int (1 : Int32))] [(.int (v0_100 p1 p2 p3)), (.ref b2), (.int (v0_152 q0 p1 p2 p3))])) t
        refine XS.iload X56.here hx rfl (hb hby at_186) rfl ?_
        exact k
      obtain ⟨_, _, ⟨T71, L71, kk71, n71⟩, -, X71, ⟨Lc71, hQ71, l71, y71, z71⟩, st71⟩ := Jvm.LawKit.callS X56 hx (y := (⟨"com/example/dosewire/dosewire/server/net/EndEndsInPinLaw", "ends", "([BII)Z"⟩ : MethodName)) hown (mvT hZ (hw _ (List.mem_of_getElem? (i := 33) rfl))) (mvT hZ (hw _ (List.mem_of_getElem? (i := 34) rfl))) (mvT hZ (hw _ (List.mem_of_getElem? (i := 3) rfl))) (mvT hZ (hw _ (List.mem_of_getElem? (i := 35) rfl))) (by decide) (backOf (W := 1) (rm7 l Z a0 hw [] b2 (v0_100 p1 p2 p3) (v0_130 p1 p2 p3) (B0_59 q0) T56.heap n0 (Nat.le_trans (Nat.le_trans (Nat.le_trans (Nat.le_trans (Nat.le_trans (Nat.le_trans (Nat.le_trans (Nat.le_trans (Nat.le_trans (Nat.le_trans Z0 E2.1) (Keep.of_wr W7).1) (Keep.of_wr W12).1) (Keep.of_wr W17).1) (Keep.of_wr W22).1) (Keep.of_wr W27).1) (Keep.of_wr W32).1) E45.1) Kq51.1) Kq56.1) (((V32'.ext E45).keep Kq51 (ninS (Nat.ne_of_lt (Nat.lt_of_lt_of_le V32'.lt (Nat.le_of_eq g45.symm))) nin0)).keep Kq56 (ninS (Nat.ne_of_lt (Nat.lt_of_lt_of_le V32'.lt (Nat.le_of_eq g45.symm))) nin0)) (own_rng1 p1 p2 p3).1) hZ (hw _ (List.mem_of_getElem? (i := 35) rfl)) (hw _ (List.mem_of_getElem? (i := 3) rfl)) (by decide) (by decide)) (g := (mkF m 188 #[.val (.long q0), .second, .val (.int p1), .val (.int p2), .val (.int p3), .val (.ref b2), .val (.int (v0_67 p1)), .val (.int (v0_76 p2)), .val (.int (v0_86 p3)), .val (.int (v0_100 p1 p2 p3)), .val (.int (v0_114 p1 p2 p3)), .val (.int (v0_130 p1 p2 p3)), .val (.ref b45), .val (.int (v0_152 q0 p1 p2 p3)), .val (.int (1 : Int32))] [(.int (v0_130 p1 p2 p3)), (.int (v0_100 p1 p2 p3)), (.ref b2), (.int (v0_152 q0 p1 p2 p3))])) rfl (by rw [hml]; rfl) (argsL := [(.ref b2), (.int (v0_100 p1 p2 p3)), (.int (v0_130 p1 p2 p3))]) (rest := [(.int (v0_152 q0 p1 p2 p3))]) (lenOf pd_1 rfl) rfl (by show 2 * 0 + _ ≤ _; exact Nat.le_of_eq rfl) (hb hby at_188) (fun _ _ => ⟨rfl, rfl, (by decide : 2 + 0 ≤ _), (by decide : 9 + 0 ≤ _)⟩)
      dsimp only [Pt.U, Pt.locs, Pt.cells, Pt.slots] at X71 l71 y71 z71 st71 hQ71
      subst l71 y71 z71
      obtain ⟨rfl, N71q, eh71⟩ := hQ71
      have N71 := Fr.app N56 N71q
      have k72 : own_Go p e below (s₁.setTop (entryFrame m #[(.long q0), (.int p1), (.int p2), (.int p3)] maxLocals)) (T71.setTop (mkF m 191 #[.val (.long q0), .second, .val (.int p1), .val (.int p2), .val (.int p3), .val (.ref b2), .val (.int (v0_67 p1)), .val (.int (v0_76 p2)), .val (.int (v0_86 p3)), .val (.int (v0_100 p1 p2 p3)), .val (.int (v0_114 p1 p2 p3)), .val (.int (v0_130 p1 p2 p3)), .val (.ref b45), .val (.int (v0_152 q0 p1 p2 p3)), .val (.int (1 : Int32))] [(.int (f7 (v0_100 p1 p2 p3) (v0_130 p1 p2 p3) (B0_59 q0))), (.int (v0_152 q0 p1 p2 p3))])) := fun t k => k70 t (st71 t k)
      by_cases hc191_73 : (v0_152 q0 p1 p2 p3) = (f7 (v0_100 p1 p2 p3) (v0_130 p1 p2 p3) (B0_59 q0))
      · have k74 : own_Go p e below (s₁.setTop (entryFrame m #[(.long q0), (.int p1), (.int p2), (.int p3)] maxLocals)) (T71.setTop (mkF m 202 #[.val (.long q0), .second, .val (.int p1), .val (.int p2), .val (.int p3), .val (.ref b2), .val (.int (v0_67 p1)), .val (.int (v0_76 p2)), .val (.int (v0_86 p3)), .val (.int (v0_100 p1 p2 p3)), .val (.int (v0_114 p1 p2 p3)), .val (.int (v0_130 p1 p2 p3)), .val (.ref b45), .val (.int (v0_152 q0 p1 p2 p3)), .val (.int (1 : Int32))] [(.int (v0_114 p1 p2 p3)), (.int (v0_100 p1 p2 p3)), (.ref b2), (.int (1 : Int32))])) := by
          intro t k
          refine k72 t ?_
          show Steps p.tables e below (T71.setTop (mkF m 191 #[.val (.long q0), .second, .val (.int p1), .val (.int p2), .val (.int p3), .val (.ref b2), .val (.int (v0_67 p1)), .val (.int (v0_76 p2)), .val (.int (v0_86 p3)), .val (.int (v0_100 p1 p2 p3)), .val (.int (v0_114 p1 p2 p3)), .val (.int (v0_130 p1 p2 p3)), .val (.ref b45), .val (.int (v0_152 q0 p1 p2 p3)), .val (.int (1 : Int32))] [(.int (f7 (v0_100 p1 p2 p3) (v0_130 p1 p2 p3) (B0_59 q0))), (.int (v0_152 q0 p1 p2 p3))])) t
          refine XS.icmpNo X71.here hx rfl (hb hby at_191) rfl (teq hc191_73).2 ?_
          show Steps p.tables e below (T71.setTop (mkF m 194 #[.val (.long q0), .second, .val (.int p1), .val (.int p2), .val (.int p3), .val (.ref b2), .val (.int (v0_67 p1)), .val (.int (v0_76 p2)), .val (.int (v0_86 p3)), .val (.int (v0_100 p1 p2 p3)), .val (.int (v0_114 p1 p2 p3)), .val (.int (v0_130 p1 p2 p3)), .val (.ref b45), .val (.int (v0_152 q0 p1 p2 p3)), .val (.int (1 : Int32))] [])) t
          refine XS.iload X71.here hx rfl (hb hby at_194) rfl ?_
          show Steps p.tables e below (T71.setTop (mkF m 196 #[.val (.long q0), .second, .val (.int p1), .val (.int p2), .val (.int p3), .val (.ref b2), .val (.int (v0_67 p1)), .val (.int (v0_76 p2)), .val (.int (v0_86 p3)), .val (.int (v0_100 p1 p2 p3)), .val (.int (v0_114 p1 p2 p3)), .val (.int (v0_130 p1 p2 p3)), .val (.ref b45), .val (.int (v0_152 q0 p1 p2 p3)), .val (.int (1 : Int32))] [(.int (1 : Int32))])) t
          refine XS.aload X71.here hx rfl (hb hby at_196) rfl rfl ?_
          show Steps p.tables e below (T71.setTop (mkF m 198 #[.val (.long q0), .second, .val (.int p1), .val (.int p2), .val (.int p3), .val (.ref b2), .val (.int (v0_67 p1)), .val (.int (v0_76 p2)), .val (.int (v0_86 p3)), .val (.int (v0_100 p1 p2 p3)), .val (.int (v0_114 p1 p2 p3)), .val (.int (v0_130 p1 p2 p3)), .val (.ref b45), .val (.int (v0_152 q0 p1 p2 p3)), .val (.int (1 : Int32))] [(.ref b2), (.int (1 : Int32))])) t
          refine XS.iload X71.here hx rfl (hb hby at_198) rfl ?_
          show Steps p.tables e below (T71.setTop (mkF m 200 #[.val (.long q0), .second, .val (.int p1), .val (.int p2), .val (.int p3), .val (.ref b2), .val (.int (v0_67 p1)), .val (.int (v0_76 p2)), .val (.int (v0_86 p3)), .val (.int (v0_100 p1 p2 p3)), .val (.int (v0_114 p1 p2 p3)), .val (.int (v0_130 p1 p2 p3)), .val (.ref b45), .val (.int (v0_152 q0 p1 p2 p3)), .val (.int (1 : Int32))] [(.int (v0_100 p1 p2 p3)), (.ref b2), (.int (1 : Int32))])) t
          refine XS.iload X71.here hx rfl (hb hby at_200) rfl ?_
          exact k
        obtain ⟨_, _, ⟨T75, L75, kk75, n75⟩, -, X75, ⟨Lc75, hQ75, l75, y75, z75⟩, st75⟩ := Jvm.LawKit.callS X71 hx (y := (⟨"com/example/dosewire/dosewire/server/net/EndEndsInPinLaw", "ends", "([BII)Z"⟩ : MethodName)) hown (mvT hZ (hw _ (List.mem_of_getElem? (i := 33) rfl))) (mvT hZ (hw _ (List.mem_of_getElem? (i := 34) rfl))) (mvT hZ (hw _ (List.mem_of_getElem? (i := 3) rfl))) (mvT hZ (hw _ (List.mem_of_getElem? (i := 35) rfl))) (by decide) (backOf (W := 1) (rm7 l Z a0 hw [] b2 (v0_100 p1 p2 p3) (v0_114 p1 p2 p3) (B0_59 q0) T56.heap n0 (Nat.le_trans (Nat.le_trans (Nat.le_trans (Nat.le_trans (Nat.le_trans (Nat.le_trans (Nat.le_trans (Nat.le_trans (Nat.le_trans (Nat.le_trans Z0 E2.1) (Keep.of_wr W7).1) (Keep.of_wr W12).1) (Keep.of_wr W17).1) (Keep.of_wr W22).1) (Keep.of_wr W27).1) (Keep.of_wr W32).1) E45.1) Kq51.1) Kq56.1) (((V32'.ext E45).keep Kq51 (ninS (Nat.ne_of_lt (Nat.lt_of_lt_of_le V32'.lt (Nat.le_of_eq g45.symm))) nin0)).keep Kq56 (ninS (Nat.ne_of_lt (Nat.lt_of_lt_of_le V32'.lt (Nat.le_of_eq g45.symm))) nin0)) (own_rng1 p1 p2 p3).1) hZ (hw _ (List.mem_of_getElem? (i := 35) rfl)) (hw _ (List.mem_of_getElem? (i := 3) rfl)) (by decide) (by decide)) (g := (mkF m 202 #[.val (.long q0), .second, .val (.int p1), .val (.int p2), .val (.int p3), .val (.ref b2), .val (.int (v0_67 p1)), .val (.int (v0_76 p2)), .val (.int (v0_86 p3)), .val (.int (v0_100 p1 p2 p3)), .val (.int (v0_114 p1 p2 p3)), .val (.int (v0_130 p1 p2 p3)), .val (.ref b45), .val (.int (v0_152 q0 p1 p2 p3)), .val (.int (1 : Int32))] [(.int (v0_114 p1 p2 p3)), (.int (v0_100 p1 p2 p3)), (.ref b2), (.int (1 : Int32))])) rfl (by rw [hml]; rfl) (argsL := [(.ref b2), (.int (v0_100 p1 p2 p3)), (.int (v0_114 p1 p2 p3))]) (rest := [(.int (1 : Int32))]) (lenOf pd_1 rfl) rfl (by show 2 * 0 + _ ≤ _; exact Nat.le_of_eq rfl) (hb hby at_202) (fun _ _ => ⟨rfl, eh71, (by decide : 2 + 0 ≤ _), (by decide : 9 + 0 ≤ _)⟩)
        dsimp only [Pt.U, Pt.locs, Pt.cells, Pt.slots] at X75 l75 y75 z75 st75 hQ75
        subst l75 y75 z75
        obtain ⟨rfl, N75q, eh75⟩ := hQ75
        have N75 := Fr.app N71 N75q
        have k76 : own_Go p e below (s₁.setTop (entryFrame m #[(.long q0), (.int p1), (.int p2), (.int p3)] maxLocals)) (T75.setTop (mkF m 205 #[.val (.long q0), .second, .val (.int p1), .val (.int p2), .val (.int p3), .val (.ref b2), .val (.int (v0_67 p1)), .val (.int (v0_76 p2)), .val (.int (v0_86 p3)), .val (.int (v0_100 p1 p2 p3)), .val (.int (v0_114 p1 p2 p3)), .val (.int (v0_130 p1 p2 p3)), .val (.ref b45), .val (.int (v0_152 q0 p1 p2 p3)), .val (.int (1 : Int32))] [(.int (f7 (v0_100 p1 p2 p3) (v0_114 p1 p2 p3) (B0_59 q0))), (.int (1 : Int32))])) := fun t k => k74 t (st75 t k)
        by_cases hc205_77 : (1 : Int32) = (f7 (v0_100 p1 p2 p3) (v0_114 p1 p2 p3) (B0_59 q0))
        · have k78 : own_Go p e below (s₁.setTop (entryFrame m #[(.long q0), (.int p1), (.int p2), (.int p3)] maxLocals)) (T75.setTop (mkF m 213 #[.val (.long q0), .second, .val (.int p1), .val (.int p2), .val (.int p3), .val (.ref b2), .val (.int (v0_67 p1)), .val (.int (v0_76 p2)), .val (.int (v0_86 p3)), .val (.int (v0_100 p1 p2 p3)), .val (.int (v0_114 p1 p2 p3)), .val (.int (v0_130 p1 p2 p3)), .val (.ref b45), .val (.int (v0_152 q0 p1 p2 p3)), .val (.int (1 : Int32))] [(.int (1 : Int32))])) := by
            intro t k
            refine k76 t ?_
            show Steps p.tables e below (T75.setTop (mkF m 205 #[.val (.long q0), .second, .val (.int p1), .val (.int p2), .val (.int p3), .val (.ref b2), .val (.int (v0_67 p1)), .val (.int (v0_76 p2)), .val (.int (v0_86 p3)), .val (.int (v0_100 p1 p2 p3)), .val (.int (v0_114 p1 p2 p3)), .val (.int (v0_130 p1 p2 p3)), .val (.ref b45), .val (.int (v0_152 q0 p1 p2 p3)), .val (.int (1 : Int32))] [(.int (f7 (v0_100 p1 p2 p3) (v0_114 p1 p2 p3) (B0_59 q0))), (.int (1 : Int32))])) t
            refine XS.icmpNo X75.here hx rfl (hb hby at_205) rfl (teq hc205_77).2 ?_
            show Steps p.tables e below (T75.setTop (mkF m 208 #[.val (.long q0), .second, .val (.int p1), .val (.int p2), .val (.int p3), .val (.ref b2), .val (.int (v0_67 p1)), .val (.int (v0_76 p2)), .val (.int (v0_86 p3)), .val (.int (v0_100 p1 p2 p3)), .val (.int (v0_114 p1 p2 p3)), .val (.int (v0_130 p1 p2 p3)), .val (.ref b45), .val (.int (v0_152 q0 p1 p2 p3)), .val (.int (1 : Int32))] [])) t
            refine XS.iconst X75.here hx rfl (hb hby at_208) ?_
            show Steps p.tables e below (T75.setTop (mkF m 209 #[.val (.long q0), .second, .val (.int p1), .val (.int p2), .val (.int p3), .val (.ref b2), .val (.int (v0_67 p1)), .val (.int (v0_76 p2)), .val (.int (v0_86 p3)), .val (.int (v0_100 p1 p2 p3)), .val (.int (v0_114 p1 p2 p3)), .val (.int (v0_130 p1 p2 p3)), .val (.ref b45), .val (.int (v0_152 q0 p1 p2 p3)), .val (.int (1 : Int32))] [(.int (1 : Int32))])) t
            refine XS.goto X75.here hx rfl (pc0 := 209) (pc' := 213) rfl (hb hby at_209) (by decide) (by decide) ?_
            exact k
          obtain ⟨fs, hr, hrun, hended, hW, hsame⟩ := X75.leave (v := some (.int (1 : Int32))) (fun h => by rw [Bd.returns] at h; cases h)
          refine ⟨_, _, k78 _ ?_, hrun, hended, _, _, rfl, ?_, ⟨_, rfl⟩, hW, hsame.mono (by decide) (by decide)⟩
          · exact retN X75 hx (t := .boolean) Bd.returns (by simp) (hb hby at_213) hr
          · show Q0 Z q0 p1 p2 p3 h0 n0 _ T75.heap _
            rw [eh75]
            exact ⟨congrArg (fun z => some (Value.int z)) (show f0 q0 p1 p2 p3 = (1 : Int32) from (by unfold f0; rw [if_pos hc156_54, if_neg hc170_58, if_pos hc191_73, if_pos hc205_77])).symm, N75⟩
        · have k79 : own_Go p e below (s₁.setTop (entryFrame m #[(.long q0), (.int p1), (.int p2), (.int p3)] maxLocals)) (T75.setTop (mkF m 213 #[.val (.long q0), .second, .val (.int p1), .val (.int p2), .val (.int p3), .val (.ref b2), .val (.int (v0_67 p1)), .val (.int (v0_76 p2)), .val (.int (v0_86 p3)), .val (.int (v0_100 p1 p2 p3)), .val (.int (v0_114 p1 p2 p3)), .val (.int (v0_130 p1 p2 p3)), .val (.ref b45), .val (.int (v0_152 q0 p1 p2 p3)), .val (.int (1 : Int32))] [(.int (0 : Int32))])) := by
            intro t k
            refine k76 t ?_
            show Steps p.tables e below (T75.setTop (mkF m 205 #[.val (.long q0), .second, .val (.int p1), .val (.int p2), .val (.int p3), .val (.ref b2), .val (.int (v0_67 p1)), .val (.int (v0_76 p2)), .val (.int (v0_86 p3)), .val (.int (v0_100 p1 p2 p3)), .val (.int (v0_114 p1 p2 p3)), .val (.int (v0_130 p1 p2 p3)), .val (.ref b45), .val (.int (v0_152 q0 p1 p2 p3)), .val (.int (1 : Int32))] [(.int (f7 (v0_100 p1 p2 p3) (v0_114 p1 p2 p3) (B0_59 q0))), (.int (1 : Int32))])) t
            refine XS.icmpYes X75.here hx rfl (pc0 := 205) (pc' := 212) rfl (hb hby at_205) rfl (feq hc205_77).2 (by decide) (by decide) ?_
            show Steps p.tables e below (T75.setTop (mkF m 212 #[.val (.long q0), .second, .val (.int p1), .val (.int p2), .val (.int p3), .val (.ref b2), .val (.int (v0_67 p1)), .val (.int (v0_76 p2)), .val (.int (v0_86 p3)), .val (.int (v0_100 p1 p2 p3)), .val (.int (v0_114 p1 p2 p3)), .val (.int (v0_130 p1 p2 p3)), .val (.ref b45), .val (.int (v0_152 q0 p1 p2 p3)), .val (.int (1 : Int32))] [])) t
            refine XS.iconst X75.here hx rfl (hb hby at_212) ?_
            exact k
          obtain ⟨fs, hr, hrun, hended, hW, hsame⟩ := X75.leave (v := some (.int (0 : Int32))) (fun h => by rw [Bd.returns] at h; cases h)
          refine ⟨_, _, k79 _ ?_, hrun, hended, _, _, rfl, ?_, ⟨_, rfl⟩, hW, hsame.mono (by decide) (by decide)⟩
          · exact retN X75 hx (t := .boolean) Bd.returns (by simp) (hb hby at_213) hr
          · show Q0 Z q0 p1 p2 p3 h0 n0 _ T75.heap _
            rw [eh75]
            exact ⟨congrArg (fun z => some (Value.int z)) (show f0 q0 p1 p2 p3 = (0 : Int32) from (by unfold f0; rw [if_pos hc156_54, if_neg hc170_58, if_pos hc191_73, if_neg hc205_77])).symm, N75⟩
      · have k80 : own_Go p e below (s₁.setTop (entryFrame m #[(.long q0), (.int p1), (.int p2), (.int p3)] maxLocals)) (T71.setTop (mkF m 213 #[.val (.long q0), .second, .val (.int p1), .val (.int p2), .val (.int p3), .val (.ref b2), .val (.int (v0_67 p1)), .val (.int (v0_76 p2)), .val (.int (v0_86 p3)), .val (.int (v0_100 p1 p2 p3)), .val (.int (v0_114 p1 p2 p3)), .val (.int (v0_130 p1 p2 p3)), .val (.ref b45), .val (.int (v0_152 q0 p1 p2 p3)), .val (.int (1 : Int32))] [(.int (0 : Int32))])) := by
          intro t k
          refine k72 t ?_
          show Steps p.tables e below (T71.setTop (mkF m 191 #[.val (.long q0), .second, .val (.int p1), .val (.int p2), .val (.int p3), .val (.ref b2), .val (.int (v0_67 p1)), .val (.int (v0_76 p2)), .val (.int (v0_86 p3)), .val (.int (v0_100 p1 p2 p3)), .val (.int (v0_114 p1 p2 p3)), .val (.int (v0_130 p1 p2 p3)), .val (.ref b45), .val (.int (v0_152 q0 p1 p2 p3)), .val (.int (1 : Int32))] [(.int (f7 (v0_100 p1 p2 p3) (v0_130 p1 p2 p3) (B0_59 q0))), (.int (v0_152 q0 p1 p2 p3))])) t
          refine XS.icmpYes X71.here hx rfl (pc0 := 191) (pc' := 212) rfl (hb hby at_191) rfl (feq hc191_73).2 (by decide) (by decide) ?_
          show Steps p.tables e below (T71.setTop (mkF m 212 #[.val (.long q0), .second, .val (.int p1), .val (.int p2), .val (.int p3), .val (.ref b2), .val (.int (v0_67 p1)), .val (.int (v0_76 p2)), .val (.int (v0_86 p3)), .val (.int (v0_100 p1 p2 p3)), .val (.int (v0_114 p1 p2 p3)), .val (.int (v0_130 p1 p2 p3)), .val (.ref b45), .val (.int (v0_152 q0 p1 p2 p3)), .val (.int (1 : Int32))] [])) t
          refine XS.iconst X71.here hx rfl (hb hby at_212) ?_
          exact k
        obtain ⟨fs, hr, hrun, hended, hW, hsame⟩ := X71.leave (v := some (.int (0 : Int32))) (fun h => by rw [Bd.returns] at h; cases h)
        refine ⟨_, _, k80 _ ?_, hrun, hended, _, _, rfl, ?_, ⟨_, rfl⟩, hW, hsame.mono (by decide) (by decide)⟩
        · exact retN X71 hx (t := .boolean) Bd.returns (by simp) (hb hby at_213) hr
        · show Q0 Z q0 p1 p2 p3 h0 n0 _ T71.heap _
          rw [eh71]
          exact ⟨congrArg (fun z => some (Value.int z)) (show f0 q0 p1 p2 p3 = (0 : Int32) from (by unfold f0; rw [if_pos hc156_54, if_neg hc170_58, if_neg hc191_73])).symm, N71⟩
  · have k81 : own_Go p e below (s₁.setTop (entryFrame m #[(.long q0), (.int p1), (.int p2), (.int p3)] maxLocals)) (T51.setTop (mkF m 188 #[.val (.long q0), .second, .val (.int p1), .val (.int p2), .val (.int p3), .val (.ref b2), .val (.int (v0_67 p1)), .val (.int (v0_76 p2)), .val (.int (v0_86 p3)), .val (.int (v0_100 p1 p2 p3)), .val (.int (v0_114 p1 p2 p3)), .val (.int (v0_130 p1 p2 p3)), .val (.ref b45), .val (.int (v0_152 q0 p1 p2 p3)), .val (.int (1 : Int32))] [(.int (v0_130 p1 p2 p3)), (.int (v0_100 p1 p2 p3)), (.ref b2), (.int (v0_152 q0 p1 p2 p3))])) := by
      intro t k
      refine k53 t ?_
      show Steps p.tables e below (T51.setTop (mkF m 156 #[.val (.long q0), .second, .val (.int p1), .val (.int p2), .val (.int p3), .val (.ref b2), .val (.int (v0_67 p1)), .val (.int (v0_76 p2)), .val (.int (v0_86 p3)), .val (.int (v0_100 p1 p2 p3)), .val (.int (v0_114 p1 p2 p3)), .val (.int (v0_130 p1 p2 p3)), .val (.ref b45), .val (.int (v0_152 q0 p1 p2 p3)), .unset] [(.int (v0_152 q0 p1 p2 p3))])) t
      refine XS.ifYes X51.here hx rfl (pc0 := 156) (pc' := 173) rfl (hb hby at_156) rfl ((if0 _ _).trans (feq hc156_54).2) (by decide) (by decide) ?_
      show Steps p.tables e below (T51.setTop (mkF m 173 #[.val (.long q0), .second, .val (.int p1), .val (.int p2), .val (.int p3), .val (.ref b2), .val (.int (v0_67 p1)), .val (.int (v0_76 p2)), .val (.int (v0_86 p3)), .val (.int (v0_100 p1 p2 p3)), .val (.int (v0_114 p1 p2 p3)), .val (.int (v0_130 p1 p2 p3)), .val (.ref b45), .val (.int (v0_152 q0 p1 p2 p3)), .unset] [])) t
      refine XS.iconst X51.here hx rfl (hb hby at_173) ?_
      show Steps p.tables e below (T51.setTop (mkF m 174 #[.val (.long q0), .second, .val (.int p1), .val (.int p2), .val (.int p3), .val (.ref b2), .val (.int (v0_67 p1)), .val (.int (v0_76 p2)), .val (.int (v0_86 p3)), .val (.int (v0_100 p1 p2 p3)), .val (.int (v0_114 p1 p2 p3)), .val (.int (v0_130 p1 p2 p3)), .val (.ref b45), .val (.int (v0_152 q0 p1 p2 p3)), .unset] [(.int (1 : Int32))])) t
      refine XS.goto X51.here hx rfl (pc0 := 174) (pc' := 178) rfl (hb hby at_174) (by decide) (by decide) ?_
      show Steps p.tables e below (T51.setTop (mkF m 178 #[.val (.long q0), .second, .val (.int p1), .val (.int p2), .val (.int p3), .val (.ref b2), .val (.int (v0_67 p1)), .val (.int (v0_76 p2)), .val (.int (v0_86 p3)), .val (.int (v0_100 p1 p2 p3)), .val (.int (v0_114 p1 p2 p3)), .val (.int (v0_130 p1 p2 p3)), .val (.ref b45), .val (.int (v0_152 q0 p1 p2 p3)), .unset] [(.int (1 : Int32))])) t
      refine XS.istore X51.here hx rfl (hb hby at_178) rfl (l' := #[.val (.long q0), .second, .val (.int p1), .val (.int p2), .val (.int p3), .val (.ref b2), .val (.int (v0_67 p1)), .val (.int (v0_76 p2)), .val (.int (v0_86 p3)), .val (.int (v0_100 p1 p2 p3)), .val (.int (v0_114 p1 p2 p3)), .val (.int (v0_130 p1 p2 p3)), .val (.ref b45), .val (.int (v0_152 q0 p1 p2 p3)), .val (.int (1 : Int32))]) rfl ?_
      show Steps p.tables e below (T51.setTop (mkF m 180 #[.val (.long q0), .second, .val (.int p1), .val (.int p2), .val (.int p3), .val (.ref b2), .val (.int (v0_67 p1)), .val (.int (v0_76 p2)), .val (.int (v0_86 p3)), .val (.int (v0_100 p1 p2 p3)), .val (.int (v0_114 p1 p2 p3)), .val (.int (v0_130 p1 p2 p3)), .val (.ref b45), .val (.int (v0_152 q0 p1 p2 p3)), .val (.int (1 : Int32))] [])) t
      refine XS.iload X51.here hx rfl (hb hby at_180) rfl ?_
      show Steps p.tables e below (T51.setTop (mkF m 182 #[.val (.long q0), .second, .val (.int p1), .val (.int p2), .val (.int p3), .val (.ref b2), .val (.int (v0_67 p1)), .val (.int (v0_76 p2)), .val (.int (v0_86 p3)), .val (.int (v0_100 p1 p2 p3)), .val (.int (v0_114 p1 p2 p3)), .val (.int (v0_130 p1 p2 p3)), .val (.ref b45), .val (.int (v0_152 q0 p1 p2 p3)), .val (.int (1 : Int32))] [(.int (v0_152 q0 p1 p2 p3))])) t
      refine XS.aload X51.here hx rfl (hb hby at_182) rfl rfl ?_
      show Steps p.tables e below (T51.setTop (mkF m 184 #[.val (.long q0), .second, .val (.int p1), .val (.int p2), .val (.int p3), .val (.ref b2), .val (.int (v0_67 p1)), .val (.int (v0_76 p2)), .val (.int (v0_86 p3)), .val (.int (v0_100 p1 p2 p3)), .val (.int (v0_114 p1 p2 p3)), .val (.int (v0_130 p1 p2 p3)), .val (.ref b45), .val (.int (v0_152 q0 p1 p2 p3)), .val (.int (1 : Int32))] [(.ref b2), (.int (v0_152 q0 p1 p2 p3))])) t
      refine XS.iload X51.here hx rfl (hb hby at_184) rfl ?_
      show Steps p.tables e below (T51.setTop (mkF m 186 #[.val (.long q0), .second, .val (.int p1), .val (.int p2), .val (.int p3), .val (.ref b2), .val (.int (v0_67 p1)), .val (.int (v0_76 p2)), .val (.int (v0_86 p3)), .val (.int (v0_100 p1 p2 p3)), .val (.int (v0_114 p1 p2 p3)), .val (.int (v0_130 p1 p2 p3)), .val (.ref b45), .val (.int (v0_152 q0 p1 p2 p3)), .val (.int (1 : Int32))] [(.int (v0_100 p1 p2 p3)), (.ref b2), (.int (v0_152 q0 p1 p2 p3))])) t
      refine XS.iload X51.here hx rfl (hb hby at_186) rfl ?_
      exact k
    obtain ⟨_, _, ⟨T82, L82, kk82, n82⟩, -, X82, ⟨Lc82, hQ82, l82, y82, z82⟩, st82⟩ := Jvm.LawKit.callS X51 hx (y := (⟨"com/example/dosewire/dosewire/server/net/EndEndsInPinLaw", "ends", "([BII)Z"⟩ : MethodName)) hown (mvT hZ (hw _ (List.mem_of_getElem? (i := 33) rfl))) (mvT hZ (hw _ (List.mem_of_getElem? (i := 34) rfl))) (mvT hZ (hw _ (List.mem_of_getElem? (i := 3) rfl))) (mvT hZ (hw _ (List.mem_of_getElem? (i := 35) rfl))) (by decide) (backOf (W := 1) (rm7 l Z a0 hw [] b2 (v0_100 p1 p2 p3) (v0_130 p1 p2 p3) (B0_59 q0) T51.heap n0 (Nat.le_trans (Nat.le_trans (Nat.le_trans (Nat.le_trans (Nat.le_trans (Nat.le_trans (Nat.le_trans (Nat.le_trans (Nat.le_trans Z0 E2.1) (Keep.of_wr W7).1) (Keep.of_wr W12).1) (Keep.of_wr W17).1) (Keep.of_wr W22).1) (Keep.of_wr W27).1) (Keep.of_wr W32).1) E45.1) Kq51.1) ((V32'.ext E45).keep Kq51 (ninS (Nat.ne_of_lt (Nat.lt_of_lt_of_le V32'.lt (Nat.le_of_eq g45.symm))) nin0)) (own_rng1 p1 p2 p3).1) hZ (hw _ (List.mem_of_getElem? (i := 35) rfl)) (hw _ (List.mem_of_getElem? (i := 3) rfl)) (by decide) (by decide)) (g := (mkF m 188 #[.val (.long q0), .second, .val (.int p1), .val (.int p2), .val (.int p3), .val (.ref b2), .val (.int (v0_67 p1)), .val (.int (v0_76 p2)), .val (.int (v0_86 p3)), .val (.int (v0_100 p1 p2 p3)), .val (.int (v0_114 p1 p2 p3)), .val (.int (v0_130 p1 p2 p3)), .val (.ref b45), .val (.int (v0_152 q0 p1 p2 p3)), .val (.int (1 : Int32))] [(.int (v0_130 p1 p2 p3)), (.int (v0_100 p1 p2 p3)), (.ref b2), (.int (v0_152 q0 p1 p2 p3))])) rfl (by rw [hml]; rfl) (argsL := [(.ref b2), (.int (v0_100 p1 p2 p3)), (.int (v0_130 p1 p2 p3))]) (rest := [(.int (v0_152 q0 p1 p2 p3))]) (lenOf pd_1 rfl) rfl (by show 2 * 0 + _ ≤ _; exact Nat.le_of_eq rfl) (hb hby at_188) (fun _ _ => ⟨rfl, rfl, (by decide : 2 + 0 ≤ _), (by decide : 9 + 0 ≤ _)⟩)
    dsimp only [Pt.U, Pt.locs, Pt.cells, Pt.slots] at X82 l82 y82 z82 st82 hQ82
    subst l82 y82 z82
    obtain ⟨rfl, N82q, eh82⟩ := hQ82
    have N82 := Fr.app N51 N82q
    have k83 : own_Go p e below (s₁.setTop (entryFrame m #[(.long q0), (.int p1), (.int p2), (.int p3)] maxLocals)) (T82.setTop (mkF m 191 #[.val (.long q0), .second, .val (.int p1), .val (.int p2), .val (.int p3), .val (.ref b2), .val (.int (v0_67 p1)), .val (.int (v0_76 p2)), .val (.int (v0_86 p3)), .val (.int (v0_100 p1 p2 p3)), .val (.int (v0_114 p1 p2 p3)), .val (.int (v0_130 p1 p2 p3)), .val (.ref b45), .val (.int (v0_152 q0 p1 p2 p3)), .val (.int (1 : Int32))] [(.int (f7 (v0_100 p1 p2 p3) (v0_130 p1 p2 p3) (B0_59 q0))), (.int (v0_152 q0 p1 p2 p3))])) := fun t k => k81 t (st82 t k)
    by_cases hc191_84 : (v0_152 q0 p1 p2 p3) = (f7 (v0_100 p1 p2 p3) (v0_130 p1 p2 p3) (B0_59 q0))
    · have k85 : own_Go p e below (s₁.setTop (entryFrame m #[(.long q0), (.int p1), (.int p2), (.int p3)] maxLocals)) (T82.setTop (mkF m 202 #[.val (.long q0), .second, .val (.int p1), .val (.int p2), .val (.int p3), .val (.ref b2), .val (.int (v0_67 p1)), .val (.int (v0_76 p2)), .val (.int (v0_86 p3)), .val (.int (v0_100 p1 p2 p3)), .val (.int (v0_114 p1 p2 p3)), .val (.int (v0_130 p1 p2 p3)), .val (.ref b45), .val (.int (v0_152 q0 p1 p2 p3)), .val (.int (1 : Int32))] [(.int (v0_114 p1 p2 p3)), (.int (v0_100 p1 p2 p3)), (.ref b2), (.int (1 : Int32))])) := by
        intro t k
        refine k83 t ?_
        show Steps p.tables e below (T82.setTop (mkF m 191 #[.val (.long q0), .second, .val (.int p1), .val (.int p2), .val (.int p3), .val (.ref b2), .val (.int (v0_67 p1)), .val (.int (v0_76 p2)), .val (.int (v0_86 p3)), .val (.int (v0_100 p1 p2 p3)), .val (.int (v0_114 p1 p2 p3)), .val (.int (v0_130 p1 p2 p3)), .val (.ref b45), .val (.int (v0_152 q0 p1 p2 p3)), .val (.int (1 : Int32))] [(.int (f7 (v0_100 p1 p2 p3) (v0_130 p1 p2 p3) (B0_59 q0))), (.int (v0_152 q0 p1 p2 p3))])) t
        refine XS.icmpNo X82.here hx rfl (hb hby at_191) rfl (teq hc191_84).2 ?_
        show Steps p.tables e below (T82.setTop (mkF m 194 #[.val (.long q0), .second, .val (.int p1), .val (.int p2), .val (.int p3), .val (.ref b2), .val (.int (v0_67 p1)), .val (.int (v0_76 p2)), .val (.int (v0_86 p3)), .val (.int (v0_100 p1 p2 p3)), .val (.int (v0_114 p1 p2 p3)), .val (.int (v0_130 p1 p2 p3)), .val (.ref b45), .val (.int (v0_152 q0 p1 p2 p3)), .val (.int (1 : Int32))] [])) t
        refine XS.iload X82.here hx rfl (hb hby at_194) rfl ?_
        show Steps p.tables e below (T82.setTop (mkF m 196 #[.val (.long q0), .second, .val (.int p1), .val (.int p2), .val (.int p3), .val (.ref b2), .val (.int (v0_67 p1)), .val (.int (v0_76 p2)), .val (.int (v0_86 p3)), .val (.int (v0_100 p1 p2 p3)), .val (.int (v0_114 p1 p2 p3)), .val (.int (v0_130 p1 p2 p3)), .val (.ref b45), .val (.int (v0_152 q0 p1 p2 p3)), .val (.int (1 : Int32))] [(.int (1 : Int32))])) t
        refine XS.aload X82.here hx rfl (hb hby at_196) rfl rfl ?_
        show Steps p.tables e below (T82.setTop (mkF m 198 #[.val (.long q0), .second, .val (.int p1), .val (.int p2), .val (.int p3), .val (.ref b2), .val (.int (v0_67 p1)), .val (.int (v0_76 p2)), .val (.int (v0_86 p3)), .val (.int (v0_100 p1 p2 p3)), .val (.int (v0_114 p1 p2 p3)), .val (.int (v0_130 p1 p2 p3)), .val (.ref b45), .val (.int (v0_152 q0 p1 p2 p3)), .val (.int (1 : Int32))] [(.ref b2), (.int (1 : Int32))])) t
        refine XS.iload X82.here hx rfl (hb hby at_198) rfl ?_
        show Steps p.tables e below (T82.setTop (mkF m 200 #[.val (.long q0), .second, .val (.int p1), .val (.int p2), .val (.int p3), .val (.ref b2), .val (.int (v0_67 p1)), .val (.int (v0_76 p2)), .val (.int (v0_86 p3)), .val (.int (v0_100 p1 p2 p3)), .val (.int (v0_114 p1 p2 p3)), .val (.int (v0_130 p1 p2 p3)), .val (.ref b45), .val (.int (v0_152 q0 p1 p2 p3)), .val (.int (1 : Int32))] [(.int (v0_100 p1 p2 p3)), (.ref b2), (.int (1 : Int32))])) t
        refine XS.iload X82.here hx rfl (hb hby at_200) rfl ?_
        exact k
      obtain ⟨_, _, ⟨T86, L86, kk86, n86⟩, -, X86, ⟨Lc86, hQ86, l86, y86, z86⟩, st86⟩ := Jvm.LawKit.callS X82 hx (y := (⟨"com/example/dosewire/dosewire/server/net/EndEndsInPinLaw", "ends", "([BII)Z"⟩ : MethodName)) hown (mvT hZ (hw _ (List.mem_of_getElem? (i := 33) rfl))) (mvT hZ (hw _ (List.mem_of_getElem? (i := 34) rfl))) (mvT hZ (hw _ (List.mem_of_getElem? (i := 3) rfl))) (mvT hZ (hw _ (List.mem_of_getElem? (i := 35) rfl))) (by decide) (backOf (W := 1) (rm7 l Z a0 hw [] b2 (v0_100 p1 p2 p3) (v0_114 p1 p2 p3) (B0_59 q0) T51.heap n0 (Nat.le_trans (Nat.le_trans (Nat.le_trans (Nat.le_trans (Nat.le_trans (Nat.le_trans (Nat.le_trans (Nat.le_trans (Nat.le_trans Z0 E2.1) (Keep.of_wr W7).1) (Keep.of_wr W12).1) (Keep.of_wr W17).1) (Keep.of_wr W22).1) (Keep.of_wr W27).1) (Keep.of_wr W32).1) E45.1) Kq51.1) ((V32'.ext E45).keep Kq51 (ninS (Nat.ne_of_lt (Nat.lt_of_lt_of_le V32'.lt (Nat.le_of_eq g45.symm))) nin0)) (own_rng1 p1 p2 p3).1) hZ (hw _ (List.mem_of_getElem? (i := 35) rfl)) (hw _ (List.mem_of_getElem? (i := 3) rfl)) (by decide) (by decide)) (g := (mkF m 202 #[.val (.long q0), .second, .val (.int p1), .val (.int p2), .val (.int p3), .val (.ref b2), .val (.int (v0_67 p1)), .val (.int (v0_76 p2)), .val (.int (v0_86 p3)), .val (.int (v0_100 p1 p2 p3)), .val (.int (v0_114 p1 p2 p3)), .val (.int (v0_130 p1 p2 p3)), .val (.ref b45), .val (.int (v0_152 q0 p1 p2 p3)), .val (.int (1 : Int32))] [(.int (v0_114 p1 p2 p3)), (.int (v0_100 p1 p2 p3)), (.ref b2), (.int (1 : Int32))])) rfl (by rw [hml]; rfl) (argsL := [(.ref b2), (.int (v0_100 p1 p2 p3)), (.int (v0_114 p1 p2 p3))]) (rest := [(.int (1 : Int32))]) (lenOf pd_1 rfl) rfl (by show 2 * 0 + _ ≤ _; exact Nat.le_of_eq rfl) (hb hby at_202) (fun _ _ => ⟨rfl, eh82, (by decide : 2 + 0 ≤ _), (by decide : 9 + 0 ≤ _)⟩)
      dsimp only [Pt.U, Pt.locs, Pt.cells, Pt.slots] at X86 l86 y86 z86 st86 hQ86
      subst l86 y86 z86
      obtain ⟨rfl, N86q, eh86⟩ := hQ86
      have N86 := Fr.app N82 N86q
      have k87 : own_Go p e below (s₁.setTop (entryFrame m #[(.long q0), (.int p1), (.int p2), (.int p3)] maxLocals)) (T86.setTop (mkF m 205 #[.val (.long q0), .second, .val (.int p1), .val (.int p2), .val (.int p3), .val (.ref b2), .val (.int (v0_67 p1)), .val (.int (v0_76 p2)), .val (.int (v0_86 p3)), .val (.int (v0_100 p1 p2 p3)), .val (.int (v0_114 p1 p2 p3)), .val (.int (v0_130 p1 p2 p3)), .val (.ref b45), .val (.int (v0_152 q0 p1 p2 p3)), .val (.int (1 : Int32))] [(.int (f7 (v0_100 p1 p2 p3) (v0_114 p1 p2 p3) (B0_59 q0))), (.int (1 : Int32))])) := fun t k => k85 t (st86 t k)
      by_cases hc205_88 : (1 : Int32) = (f7 (v0_100 p1 p2 p3) (v0_114 p1 p2 p3) (B0_59 q0))
      · have k89 : own_Go p e below (s₁.setTop (entryFrame m #[(.long q0), (.int p1), (.int p2), (.int p3)] maxLocals)) (T86.setTop (mkF m 213 #[.val (.long q0), .second, .val (.int p1), .val (.int p2), .val (.int p3), .val (.ref b2), .val (.int (v0_67 p1)), .val (.int (v0_76 p2)), .val (.int (v0_86 p3)), .val (.int (v0_100 p1 p2 p3)), .val (.int (v0_114 p1 p2 p3)), .val (.int (v0_130 p1 p2 p3)), .val (.ref b45), .val (.int (v0_152 q0 p1 p2 p3)), .val (.int (1 : Int32))] [(.int (1 : Int32))])) := by
          intro t k
          refine k87 t ?_
          show Steps p.tables e below (T86.setTop (mkF m 205 #[.val (.long q0), .second, .val (.int p1), .val (.int p2), .val (.int p3), .val (.ref b2), .val (.int (v0_67 p1)), .val (.int (v0_76 p2)), .val (.int (v0_86 p3)), .val (.int (v0_100 p1 p2 p3)), .val (.int (v0_114 p1 p2 p3)), .val (.int (v0_130 p1 p2 p3)), .val (.ref b45), .val (.int (v0_152 q0 p1 p2 p3)), .val (.int (1 : Int32))] [(.int (f7 (v0_100 p1 p2 p3) (v0_114 p1 p2 p3) (B0_59 q0))), (.int (1 : Int32))])) t
          refine XS.icmpNo X86.here hx rfl (hb hby at_205) rfl (teq hc205_88).2 ?_
          show Steps p.tables e below (T86.setTop (mkF m 208 #[.val (.long q0), .second, .val (.int p1), .val (.int p2), .val (.int p3), .val (.ref b2), .val (.int (v0_67 p1)), .val (.int (v0_76 p2)), .val (.int (v0_86 p3)), .val (.int (v0_100 p1 p2 p3)), .val (.int (v0_114 p1 p2 p3)), .val (.int (v0_130 p1 p2 p3)), .val (.ref b45), .val (.int (v0_152 q0 p1 p2 p3)), .val (.int (1 : Int32))] [])) t
          refine XS.iconst X86.here hx rfl (hb hby at_208) ?_
          show Steps p.tables e below (T86.setTop (mkF m 209 #[.val (.long q0), .second, .val (.int p1), .val (.int p2), .val (.int p3), .val (.ref b2), .val (.int (v0_67 p1)), .val (.int (v0_76 p2)), .val (.int (v0_86 p3)), .val (.int (v0_100 p1 p2 p3)), .val (.int (v0_114 p1 p2 p3)), .val (.int (v0_130 p1 p2 p3)), .val (.ref b45), .val (.int (v0_152 q0 p1 p2 p3)), .val (.int (1 : Int32))] [(.int (1 : Int32))])) t
          refine XS.goto X86.here hx rfl (pc0 := 209) (pc' := 213) rfl (hb hby at_209) (by decide) (by decide) ?_
          exact k
        obtain ⟨fs, hr, hrun, hended, hW, hsame⟩ := X86.leave (v := some (.int (1 : Int32))) (fun h => by rw [Bd.returns] at h; cases h)
        refine ⟨_, _, k89 _ ?_, hrun, hended, _, _, rfl, ?_, ⟨_, rfl⟩, hW, hsame.mono (by decide) (by decide)⟩
        · exact retN X86 hx (t := .boolean) Bd.returns (by simp) (hb hby at_213) hr
        · show Q0 Z q0 p1 p2 p3 h0 n0 _ T86.heap _
          rw [eh86]
          exact ⟨congrArg (fun z => some (Value.int z)) (show f0 q0 p1 p2 p3 = (1 : Int32) from (by unfold f0; rw [if_neg hc156_54, if_pos hc191_84, if_pos hc205_88])).symm, N86⟩
      · have k90 : own_Go p e below (s₁.setTop (entryFrame m #[(.long q0), (.int p1), (.int p2), (.int p3)] maxLocals)) (T86.setTop (mkF m 213 #[.val (.long q0), .second, .val (.int p1), .val (.int p2), .val (.int p3), .val (.ref b2), .val (.int (v0_67 p1)), .val (.int (v0_76 p2)), .val (.int (v0_86 p3)), .val (.int (v0_100 p1 p2 p3)), .val (.int (v0_114 p1 p2 p3)), .val (.int (v0_130 p1 p2 p3)), .val (.ref b45), .val (.int (v0_152 q0 p1 p2 p3)), .val (.int (1 : Int32))] [(.int (0 : Int32))])) := by
          intro t k
          refine k87 t ?_
          show Steps p.tables e below (T86.setTop (mkF m 205 #[.val (.long q0), .second, .val (.int p1), .val (.int p2), .val (.int p3), .val (.ref b2), .val (.int (v0_67 p1)), .val (.int (v0_76 p2)), .val (.int (v0_86 p3)), .val (.int (v0_100 p1 p2 p3)), .val (.int (v0_114 p1 p2 p3)), .val (.int (v0_130 p1 p2 p3)), .val (.ref b45), .val (.int (v0_152 q0 p1 p2 p3)), .val (.int (1 : Int32))] [(.int (f7 (v0_100 p1 p2 p3) (v0_114 p1 p2 p3) (B0_59 q0))), (.int (1 : Int32))])) t
          refine XS.icmpYes X86.here hx rfl (pc0 := 205) (pc' := 212) rfl (hb hby at_205) rfl (feq hc205_88).2 (by decide) (by decide) ?_
          show Steps p.tables e below (T86.setTop (mkF m 212 #[.val (.long q0), .second, .val (.int p1), .val (.int p2), .val (.int p3), .val (.ref b2), .val (.int (v0_67 p1)), .val (.int (v0_76 p2)), .val (.int (v0_86 p3)), .val (.int (v0_100 p1 p2 p3)), .val (.int (v0_114 p1 p2 p3)), .val (.int (v0_130 p1 p2 p3)), .val (.ref b45), .val (.int (v0_152 q0 p1 p2 p3)), .val (.int (1 : Int32))] [])) t
          refine XS.iconst X86.here hx rfl (hb hby at_212) ?_
          exact k
        obtain ⟨fs, hr, hrun, hended, hW, hsame⟩ := X86.leave (v := some (.int (0 : Int32))) (fun h => by rw [Bd.returns] at h; cases h)
        refine ⟨_, _, k90 _ ?_, hrun, hended, _, _, rfl, ?_, ⟨_, rfl⟩, hW, hsame.mono (by decide) (by decide)⟩
        · exact retN X86 hx (t := .boolean) Bd.returns (by simp) (hb hby at_213) hr
        · show Q0 Z q0 p1 p2 p3 h0 n0 _ T86.heap _
          rw [eh86]
          exact ⟨congrArg (fun z => some (Value.int z)) (show f0 q0 p1 p2 p3 = (0 : Int32) from (by unfold f0; rw [if_neg hc156_54, if_pos hc191_84, if_neg hc205_88])).symm, N86⟩
    · have k91 : own_Go p e below (s₁.setTop (entryFrame m #[(.long q0), (.int p1), (.int p2), (.int p3)] maxLocals)) (T82.setTop (mkF m 213 #[.val (.long q0), .second, .val (.int p1), .val (.int p2), .val (.int p3), .val (.ref b2), .val (.int (v0_67 p1)), .val (.int (v0_76 p2)), .val (.int (v0_86 p3)), .val (.int (v0_100 p1 p2 p3)), .val (.int (v0_114 p1 p2 p3)), .val (.int (v0_130 p1 p2 p3)), .val (.ref b45), .val (.int (v0_152 q0 p1 p2 p3)), .val (.int (1 : Int32))] [(.int (0 : Int32))])) := by
        intro t k
        refine k83 t ?_
        show Steps p.tables e below (T82.setTop (mkF m 191 #[.val (.long q0), .second, .val (.int p1), .val (.int p2), .val (.int p3), .val (.ref b2), .val (.int (v0_67 p1)), .val (.int (v0_76 p2)), .val (.int (v0_86 p3)), .val (.int (v0_100 p1 p2 p3)), .val (.int (v0_114 p1 p2 p3)), .val (.int (v0_130 p1 p2 p3)), .val (.ref b45), .val (.int (v0_152 q0 p1 p2 p3)), .val (.int (1 : Int32))] [(.int (f7 (v0_100 p1 p2 p3) (v0_130 p1 p2 p3) (B0_59 q0))), (.int (v0_152 q0 p1 p2 p3))])) t
        refine XS.icmpYes X82.here hx rfl (pc0 := 191) (pc' := 212) rfl (hb hby at_191) rfl (feq hc191_84).2 (by decide) (by decide) ?_
        show Steps p.tables e below (T82.setTop (mkF m 212 #[.val (.long q0), .second, .val (.int p1), .val (.int p2), .val (.int p3), .val (.ref b2), .val (.int (v0_67 p1)), .val (.int (v0_76 p2)), .val (.int (v0_86 p3)), .val (.int (v0_100 p1 p2 p3)), .val (.int (v0_114 p1 p2 p3)), .val (.int (v0_130 p1 p2 p3)), .val (.ref b45), .val (.int (v0_152 q0 p1 p2 p3)), .val (.int (1 : Int32))] [])) t
        refine XS.iconst X82.here hx rfl (hb hby at_212) ?_
        exact k
      obtain ⟨fs, hr, hrun, hended, hW, hsame⟩ := X82.leave (v := some (.int (0 : Int32))) (fun h => by rw [Bd.returns] at h; cases h)
      refine ⟨_, _, k91 _ ?_, hrun, hended, _, _, rfl, ?_, ⟨_, rfl⟩, hW, hsame.mono (by decide) (by decide)⟩
      · exact retN X82 hx (t := .boolean) Bd.returns (by simp) (hb hby at_213) hr
      · show Q0 Z q0 p1 p2 p3 h0 n0 _ T82.heap _
        rw [eh82]
        exact ⟨congrArg (fun z => some (Value.int z)) (show f0 q0 p1 p2 p3 = (0 : Int32) from (by unfold f0; rw [if_neg hc156_54, if_neg hc191_84])).symm, N82⟩
def own_b (b : Bool) : Int32 := if b then 1 else 0
def own_emp (B : Nat → Int32) (lo i : Nat) : Bool := decide (i = lo) || (decide (B (i - 1) = 10) || (decide (B (i - 1) = 13) && (decide (i - 1 = lo) || decide (B (i - 2) = 10))))
def own_R (B : Nat → Int32) (lo : Nat) : Nat → Nat → Bool → Bool → Bool
  | 0, _, _, res => res
  | k + 1, i, seen, res => if B i = 10 then own_R B lo k (i + 1) (seen || !own_emp B lo i) (res || (own_emp B lo i && seen)) else own_R B lo k (i + 1) seen res
theorem own_R_succ (B : Nat → Int32) (lo k i : Nat) (seen res : Bool) : own_R B lo (k + 1) i seen res = if B i = 10 then own_R B lo k (i + 1) (seen || !own_emp B lo i) (res || (own_emp B lo i && seen)) else own_R B lo k (i + 1) seen res := rfl
theorem own_R_true (B : Nat → Int32) (lo k : Nat) : ∀ i seen, own_R B lo k i seen true = true := by
  induction k with
  | zero => intro i seen; rfl
  | succ k ih => intro i seen; rw [own_R_succ]; split
                 · exact ih _ _
                 · exact ih _ _
theorem own_R_pre (B : Nat → Int32) (lo k k2 : Nat) : ∀ i seen res, own_R B lo k i seen res = true → own_R B lo (k + k2) i seen res = true := by
  induction k with
  | zero => intro i seen res h; have h' : res = true := h; subst h'; exact own_R_true _ _ _ _ _
  | succ k ih =>
    intro i seen res h
    rw [show k + 1 + k2 = (k + k2) + 1 by omega, own_R_succ]
    rw [own_R_succ] at h
    split at h
    · rw [if_pos ‹_›]; exact ih _ _ _ h
    · rw [if_neg ‹_›]; exact ih _ _ _ h
theorem own_in32 (n : Nat) (h : n ≤ 1000) : (Int32.ofNat n).toInt = n := Int32.toInt_ofNat_of_lt (by omega)
theorem own_nc (n : Nat) (h : n ≤ 100) : (Int32.ofNat n).toNatClampNeg = n := by show (Int32.ofNat n).toInt.toNat = n; rw [own_in32 n (by omega)]; omega
theorem own_eq32 (a b : Nat) (ha : a ≤ 100) (hb : b ≤ 100) : Int32.ofNat a = Int32.ofNat b ↔ a = b := by
  rw [← Int32.toInt_inj, own_in32 a (by omega), own_in32 b (by omega)]; omega
theorem own_m1 (n : Nat) (h : n ≤ 100) (h1 : 1 ≤ n) : Int32.ofNat n - (1 : Int32) = Int32.ofNat (n - 1) := by
  apply Int32.toInt_inj.mp
  have e1 : (1 : Int32).toInt = 1 := rfl
  rw [Jvm.Kit.i32_sub] <;> rw [own_in32 n (by omega)] <;> (try rw [own_in32 (n - 1) (by omega)]) <;> omega
theorem own_m2 (n : Nat) (h : n ≤ 100) (h1 : 2 ≤ n) : Int32.ofNat n - (2 : Int32) = Int32.ofNat (n - 2) := by
  apply Int32.toInt_inj.mp
  have e1 : (2 : Int32).toInt = 2 := rfl
  rw [Jvm.Kit.i32_sub] <;> rw [own_in32 n (by omega)] <;> (try rw [own_in32 (n - 2) (by omega)]) <;> omega
theorem own_p1 (n : Nat) (h : n ≤ 100) : Int32.ofNat n + (1 : Int32) = Int32.ofNat (n + 1) := by
  apply Int32.toInt_inj.mp
  have e1 : (1 : Int32).toInt = 1 := rfl
  rw [Jvm.Kit.i32_add] <;> rw [own_in32 n (by omega)] <;> (try rw [own_in32 (n + 1) (by omega)]) <;> omega
theorem own_f9 (B : Nat → Int32) (lo i : Nat) (h : lo ≤ i) (hi : i < 6) : f9 (Int32.ofNat lo) (Int32.ofNat i) B = own_b (own_emp B lo i) := by
  unfold f9 own_emp own_b
  by_cases q1 : i = lo
  · rw [if_pos ((own_eq32 i lo (by omega) (by omega)).mpr q1)]; simp [q1]
  · rw [if_neg (fun z => q1 ((own_eq32 i lo (by omega) (by omega)).mp z)), own_m1 i (by omega) (by omega), own_nc (i - 1) (by omega)]
    by_cases q2 : B (i - 1) = 10
    · rw [if_pos q2]; simp [q2]
    · rw [if_neg q2]
      by_cases q3 : B (i - 1) = 13
      · rw [if_pos q3]
        by_cases q4 : i - 1 = lo
        · rw [if_pos ((own_eq32 _ _ (by omega) (by omega)).mpr q4), decide_eq_true q3, decide_eq_true q4]; simp
        · rw [if_neg (fun z => q4 ((own_eq32 _ _ (by omega) (by omega)).mp z)), own_m2 i (by omega) (by omega), own_nc (i - 2) (by omega)]
          by_cases q5 : B (i - 2) = 10
          · rw [if_pos q5, decide_eq_true q3, decide_eq_true q5]; simp
          · rw [if_neg q5]; simp [q1, q2, q3, q4, q5]
      · rw [if_neg q3]; simp [q1, q2, q3]
theorem own_f8 (B : Nat → Int32) (lo to i : Nat) (h1 : lo ≤ 6) (h2 : to ≤ 6) (h3 : i < 6) : f8 (Int32.ofNat lo) (Int32.ofNat to) (Int32.ofNat i) B = own_b (decide (lo ≤ i ∧ i < to ∧ B i = 10)) := by
  unfold f8 own_b
  rw [own_nc i (by omega)]
  simp only [Int32.lt_iff_toInt_lt, own_in32 lo (by omega), own_in32 to (by omega), own_in32 i (by omega)]
  by_cases q1 : lo ≤ i
  · rw [if_neg (by omega)]
    by_cases q2 : i < to
    · rw [if_pos (by omega)]
      by_cases q3 : B i = 10
      · rw [if_pos q3]; simp [q1, q2, q3]
      · rw [if_neg q3]; simp [q3]
    · rw [if_neg (by omega)]; simp [q2]
  · rw [if_pos (by omega)]; simp [q1]
def own_step (B : Nat → Int32) (lo to i : Nat) (s : Bool × Bool) : Bool × Bool := if lo ≤ i ∧ i < to ∧ B i = 10 then (s.1 || !own_emp B lo i, s.2 || (own_emp B lo i && s.1)) else s
theorem own_st1 (B : Nat → Int32) (lo to i : Nat) (h1 : lo ≤ 6) (h2 : to ≤ 6) (h3 : i < 6) (s : Bool × Bool) (w j : Int32) (hj : j = Int32.ofNat i) (hw : w = own_b s.1) : (w ||| (if f8 (Int32.ofNat lo) (Int32.ofNat to) j B = (0 : Int32) then (0 : Int32) else (if f9 (Int32.ofNat lo) j B = (0 : Int32) then (1 : Int32) else (0 : Int32)))) = own_b (own_step B lo to i s).1 := by
  subst hj; subst hw
  rw [own_f8 B lo to i h1 h2 h3]
  unfold own_step
  by_cases g : lo ≤ i ∧ i < to ∧ B i = 10
  · rw [if_pos g, decide_eq_true g, own_f9 B lo i g.1 h3]
    cases own_emp B lo i <;> cases s.1 <;> rfl
  · rw [if_neg g, decide_eq_false g, if_pos (show own_b false = (0 : Int32) from rfl)]
    cases s.1 <;> rfl
theorem own_st2 (B : Nat → Int32) (lo to i : Nat) (h1 : lo ≤ 6) (h2 : to ≤ 6) (h3 : i < 6) (s : Bool × Bool) (w r j : Int32) (hj : j = Int32.ofNat i) (hw : w = own_b s.1) (hr : r = own_b s.2) : (r ||| (if f8 (Int32.ofNat lo) (Int32.ofNat to) j B = (0 : Int32) then (0 : Int32) else (if f9 (Int32.ofNat lo) j B = (0 : Int32) then (0 : Int32) else (if w = (0 : Int32) then (0 : Int32) else (1 : Int32))))) = own_b (own_step B lo to i s).2 := by
  subst hj; subst hw; subst hr
  rw [own_f8 B lo to i h1 h2 h3]
  unfold own_step
  by_cases g : lo ≤ i ∧ i < to ∧ B i = 10
  · rw [if_pos g, decide_eq_true g, own_f9 B lo i g.1 h3]
    cases own_emp B lo i <;> cases s.1 <;> cases s.2 <;> rfl
  · rw [if_neg g, decide_eq_false g, if_pos (show own_b false = (0 : Int32) from rfl)]
    cases s.2 <;> rfl
def own_S (B : Nat → Int32) (lo to : Nat) : Nat → Nat → Bool × Bool → Bool × Bool
  | 0, _, s => s
  | k + 1, i, s => own_S B lo to k (i + 1) (own_step B lo to i s)
theorem own_S_late (B : Nat → Int32) (lo to k : Nat) : ∀ i s, to ≤ i → own_S B lo to k i s = s := by
  induction k with
  | zero => intro i s h; rfl
  | succ k ih => intro i s h; show own_S B lo to k (i + 1) (own_step B lo to i s) = s; rw [ih _ _ (by omega)]; unfold own_step; rw [if_neg (by omega)]
theorem own_S_mid (B : Nat → Int32) (lo to : Nat) (ht : to ≤ 6) (k : Nat) : ∀ i s, lo ≤ i → i ≤ to → i + k = 6 → (own_S B lo to k i s).2 = own_R B lo (to - i) i s.1 s.2 := by
  induction k with
  | zero => intro i s h1 h2 h3; rw [show to - i = 0 by omega]; rfl
  | succ k ih =>
    intro i s h1 h2 h3
    by_cases q : i = to
    · rw [own_S_late B lo to _ i s (by omega), show to - i = 0 by omega]; rfl
    · show (own_S B lo to k (i + 1) (own_step B lo to i s)).2 = _
      rw [ih _ _ (by omega) (by omega) (by omega), show to - i = (to - (i + 1)) + 1 by omega, own_R_succ]
      unfold own_step
      by_cases g : B i = 10
      · rw [if_pos (show lo ≤ i ∧ i < to ∧ B i = 10 from ⟨h1, by omega, g⟩), if_pos g]
      · rw [if_neg (fun z => g z.2.2), if_neg g]
theorem own_S_all (B : Nat → Int32) (lo to : Nat) (hlt : lo ≤ to) (ht : to ≤ 6) (k : Nat) : ∀ i s, i ≤ lo → i + k = 6 → (own_S B lo to k i s).2 = own_R B lo (to - lo) lo s.1 s.2 := by
  induction k with
  | zero => intro i s h1 h2; rw [show to - lo = 0 by omega]; rfl
  | succ k ih =>
    intro i s h1 h2
    by_cases q : i = lo
    · subst q; exact own_S_mid B i to ht _ i s (Nat.le_refl _) hlt h2
    · show (own_S B lo to k (i + 1) (own_step B lo to i s)).2 = _
      rw [show own_step B lo to i s = s by unfold own_step; rw [if_neg (by omega)]]
      exact ih _ _ (by omega) (by omega)
theorem own_f7 (B : Nat → Int32) (lo to : Nat) (hlt : lo ≤ to) (ht : to ≤ 6) : f7 (Int32.ofNat lo) (Int32.ofNat to) B = own_b (own_R B lo (to - lo) lo false false) := by
  have hl : lo ≤ 6 := by omega
  have a1 : v7_63 (Int32.ofNat lo) (Int32.ofNat to) B = own_b (own_step B lo to 0 (false, false)).1 := own_st1 B lo to 0 hl ht (by decide) (false, false) _ _ rfl rfl
  have b1 : v7_40 = own_b (own_step B lo to 0 (false, false)).2 := by
    unfold own_step; split
    · simp [v7_40, own_b]
    · simp [v7_40, own_b]
  have b2 := own_st2 B lo to 1 hl ht (by decide) (own_step B lo to 0 (false, false)) _ _ _ rfl a1 b1
  have a2 := own_st1 B lo to 1 hl ht (by decide) (own_step B lo to 0 (false, false)) _ _ rfl a1
  have b3 := own_st2 B lo to 2 hl ht (by decide) _ _ _ _ rfl a2 b2
  have a3 := own_st1 B lo to 2 hl ht (by decide) _ _ _ rfl a2
  have b4 := own_st2 B lo to 3 hl ht (by decide) _ _ _ _ rfl a3 b3
  have a4 := own_st1 B lo to 3 hl ht (by decide) _ _ _ rfl a3
  have b5 := own_st2 B lo to 4 hl ht (by decide) _ _ _ _ rfl a4 b4
  have a5 := own_st1 B lo to 4 hl ht (by decide) _ _ _ rfl a4
  have b6 := own_st2 B lo to 5 hl ht (by decide) _ _ _ _ rfl a5 b5
  have e6 : v7_335 (Int32.ofNat lo) (Int32.ofNat to) B = own_b (own_S B lo to 6 0 (false, false)).2 := b6
  unfold f7
  rw [e6, own_S_all B lo to hlt ht 6 0 (false, false) (by omega) (by omega)]
  cases own_R B lo (to - lo) lo false false <;> decide
def own_I (B : Nat → Int32) (lo i n : Nat) (cr : Int32) : Prop := lo ≤ i ∧ n ≤ i ∧ ((i = lo ∧ n = 0) ∨ (lo < i ∧ B (i - 1) = 10 ∧ n = 0) ∨ (lo < i ∧ ¬ B (i - 1) = 10 ∧ 1 ≤ n ∧ (n = 1 ↔ (i - 1 = lo ∨ B (i - 2) = 10)) ∧ (n = 1 → (cr = 0 ↔ ¬ B (i - 1) = 13))))
theorem own_empty (B : Nat → Int32) (lo i n : Nat) (cr : Int32) (hi : i ≤ 6) (h : own_I B lo i n cr) : m6_80_s0 (Int32.ofNat n) cr = own_b (own_emp B lo i) := by
  obtain ⟨h1, h2, h3⟩ := h
  have z0 : (Int32.ofNat n = (0 : Int32)) ↔ n = 0 := own_eq32 n 0 (by omega) (by omega)
  have z1 : (Int32.ofNat n = (1 : Int32)) ↔ n = 1 := own_eq32 n 1 (by omega) (by omega)
  unfold m6_80_s0 own_emp own_b
  rcases h3 with ⟨q1, q2⟩ | ⟨q1, q2, q3⟩ | ⟨q1, q2, q3, q4, q5⟩
  · rw [if_pos (z0.mpr q2)]; simp [q1]
  · rw [if_pos (z0.mpr q3)]; simp [q2]
  · rw [if_neg (fun z => by have := z0.mp z; omega)]
    have qi : ¬ i = lo := by omega
    by_cases g : n = 1
    · rw [if_pos (z1.mpr g)]
      have q4' := q4.mp g
      have q5' := q5 g
      by_cases c : cr = 0
      · rw [if_pos c]; simp [qi, q2, q5'.mp c]
      · rw [if_neg c]
        have c13 : B (i - 1) = 13 := Classical.byContradiction fun z => c (q5'.mpr z)
        rcases q4' with w | w
        · rw [decide_eq_true c13, decide_eq_true w]; simp
        · rw [decide_eq_true c13, decide_eq_true w]; simp
    · rw [if_neg (fun z => g (z1.mp z))]
      have ng : ¬ (i - 1 = lo ∨ B (i - 2) = 10) := fun z => g (q4.mpr z)
      have ng1 : ¬ i - 1 = lo := fun z => ng (Or.inl z)
      have ng2 : ¬ B (i - 2) = 10 := fun z => ng (Or.inr z)
      simp [qi, q2, ng1, ng2]
theorem own_end (B : Nat → Int32) (lo : Nat) (k : Nat) : ∀ (i n : Nat) (cr rl : Int32) (seen : Bool), i + k ≤ 6 → own_I B lo i n cr → rl = own_b seen →
    (endsF B k (Int32.ofNat i) (Int32.ofNat n) cr rl).1 = own_b (own_R B lo k i seen false) ∧
    ((endsF B k (Int32.ofNat i) (Int32.ofNat n) cr rl).1 = 0 → ∃ (n' : Nat) (seen' : Bool), (endsF B k (Int32.ofNat i) (Int32.ofNat n) cr rl).2.1 = Int32.ofNat n' ∧ (endsF B k (Int32.ofNat i) (Int32.ofNat n) cr rl).2.2.2 = own_b seen' ∧ own_I B lo (i + k) n' (endsF B k (Int32.ofNat i) (Int32.ofNat n) cr rl).2.2.1 ∧ ∀ k2, own_R B lo (k + k2) i seen false = own_R B lo k2 (i + k) seen' false) := by
  induction k with
  | zero =>
    intro i n cr rl seen hk hI hr
    rw [own_endsF_zero]
    exact ⟨rfl, fun _ => ⟨n, seen, rfl, hr, hI, fun k2 => by rw [Nat.zero_add]; rfl⟩⟩
  | succ k ih =>
    intro i n cr rl seen hk hI hr
    have hm := own_empty B lo i n cr (by omega) hI
    have hni : n ≤ i := hI.2.1
    have more : ∀ k2, k + 1 + k2 = (k + k2) + 1 := fun k2 => by omega
    have go : ∀ (n1 : Nat) (cr1 rl1 : Int32) (s1 : Bool), own_I B lo (i + 1) n1 cr1 → rl1 = own_b s1 → (∀ j, own_R B lo (j + 1) i seen false = own_R B lo j (i + 1) s1 false) →
        endsF B (k + 1) (Int32.ofNat i) (Int32.ofNat n) cr rl = endsF B k (Int32.ofNat (i + 1)) (Int32.ofNat n1) cr1 rl1 →
        (endsF B (k + 1) (Int32.ofNat i) (Int32.ofNat n) cr rl).1 = own_b (own_R B lo (k + 1) i seen false) ∧
        ((endsF B (k + 1) (Int32.ofNat i) (Int32.ofNat n) cr rl).1 = 0 → ∃ (n' : Nat) (seen' : Bool), (endsF B (k + 1) (Int32.ofNat i) (Int32.ofNat n) cr rl).2.1 = Int32.ofNat n' ∧ (endsF B (k + 1) (Int32.ofNat i) (Int32.ofNat n) cr rl).2.2.2 = own_b seen' ∧ own_I B lo (i + (k + 1)) n' (endsF B (k + 1) (Int32.ofNat i) (Int32.ofNat n) cr rl).2.2.1 ∧ ∀ k2, own_R B lo (k + 1 + k2) i seen false = own_R B lo k2 (i + (k + 1)) seen' false) := by
      intro n1 cr1 rl1 s1 hI1 hr1 hR he
      obtain ⟨r1, r2⟩ := ih (i + 1) n1 cr1 rl1 s1 (by omega) hI1 hr1
      rw [he]
      refine ⟨by rw [r1, hR], fun h0 => ?_⟩
      obtain ⟨n', s', t1, t2, t3, t4⟩ := r2 h0
      refine ⟨n', s', t1, t2, by rw [show i + (k + 1) = i + 1 + k by omega]; exact t3, fun k2 => ?_⟩
      rw [more, hR, t4, show i + (k + 1) = i + 1 + k by omega]
    have ec : (Int32.ofNat i).toNatClampNeg = i := own_nc i (by omega)
    have ei : Int32.ofNat i + (1 : Int32) = Int32.ofNat (i + 1) := own_p1 i (by omega)
    have en : Int32.ofNat n + (1 : Int32) = Int32.ofNat (n + 1) := own_p1 n (by omega)
    have hs : endsF B (k + 1) (Int32.ofNat i) (Int32.ofNat n) cr rl = _ := own_endsF_succ B k (Int32.ofNat i) (Int32.ofNat n) cr rl
    rw [hm, ec, ei, en] at hs
    by_cases g : B i = 10
    · rw [if_pos g] at hs
      have hR : ∀ j, own_R B lo (j + 1) i seen false = own_R B lo j (i + 1) (seen || !own_emp B lo i) (false || (own_emp B lo i && seen)) := fun j => by rw [own_R_succ, if_pos g]
      have hI0 : own_I B lo (i + 1) 0 cr := ⟨by have := hI.1; omega, by omega, Or.inr (Or.inl ⟨by have := hI.1; omega, g, rfl⟩)⟩
      cases he : own_emp B lo i with
      | false =>
        rw [he] at hs
        rw [if_pos (show own_b false = (0 : Int32) from rfl)] at hs
        refine go 0 cr _ true hI0 ?_ (fun j => ?_) hs
        · subst hr; cases seen <;> decide
        · rw [hR j, he]; cases seen <;> rfl
      | true =>
        rw [he] at hs
        rw [if_neg (show ¬ own_b true = (0 : Int32) from by decide)] at hs
        cases hq : seen with
        | false =>
          subst hq; subst hr
          rw [if_pos (show own_b false = (0 : Int32) from rfl)] at hs
          refine go 0 cr _ false hI0 ?_ (fun j => ?_) hs
          · decide
          · rw [hR j, he]; rfl
        | true =>
          subst hq; subst hr
          rw [if_neg (show ¬ own_b true = (0 : Int32) from by decide)] at hs
          rw [hs]
          refine ⟨?_, fun h => absurd (show (1 : Int32) = 0 from h) (by decide)⟩
          rw [hR k, he]
          show (1 : Int32) = own_b (own_R B lo k (i + 1) true true)
          rw [own_R_true]; rfl
    · rw [if_neg g] at hs
      have hR : ∀ j, own_R B lo (j + 1) i seen false = own_R B lo j (i + 1) seen false := fun j => by rw [own_R_succ, if_neg g]
      have z0 : (Int32.ofNat n = (0 : Int32)) ↔ n = 0 := own_eq32 n 0 (by omega) (by omega)
      obtain ⟨h1, h2, h3⟩ := hI
      by_cases qn : n = 0
      · rw [if_pos (z0.mpr qn)] at hs
        refine go (n + 1) _ rl seen ?_ hr hR hs
        refine ⟨by omega, by omega, Or.inr (Or.inr ⟨by omega, g, by omega, ?_, fun _ => ?_⟩)⟩
        · rcases h3 with w | w | w
          · exact ⟨fun _ => Or.inl (by omega), fun _ => by omega⟩
          · exact ⟨fun _ => Or.inr (by rw [show i + 1 - 2 = i - 1 by omega]; exact w.2.1), fun _ => by omega⟩
          · omega
        · rw [show i + 1 - 1 = i by omega]
          unfold m6_47_s0
          rw [ec]
          by_cases c : B i = 13
          · rw [if_pos c]; exact ⟨fun z => absurd z (by decide), fun z => absurd c z⟩
          · rw [if_neg c]; exact ⟨fun _ => c, fun _ => by decide⟩
      · rw [if_neg (fun z => qn (z0.mp z))] at hs
        refine go (n + 1) cr rl seen ?_ hr hR hs
        refine ⟨by omega, by omega, Or.inr (Or.inr ⟨by omega, g, by omega, ?_, fun z => by omega⟩)⟩
        rcases h3 with w | w | w
        · omega
        · omega
        · refine ⟨fun z => by omega, fun z => ?_⟩
          rcases z with z | z
          · omega
          · rw [show i + 1 - 2 = i - 1 by omega] at z; exact absurd z w.2.1
theorem own_law (q0 : Int64) (p1 p2 p3 : Int32) : f0 q0 p1 p2 p3 = 1 := by
  have h := own_rng p1 p2 p3
  obtain ⟨lo, hlo, elo⟩ := own_of_range (v0_100 p1 p2 p3) 7 (by decide) (by omega) (by omega)
  obtain ⟨mi, hmi, emi⟩ := own_of_range (v0_130 p1 p2 p3) 7 (by decide) (by omega) (by omega)
  obtain ⟨hi, hhi, ehi⟩ := own_of_range (v0_114 p1 p2 p3) 7 (by decide) (by omega) (by omega)
  rw [elo, emi, ehi, own_in32 lo (by omega), own_in32 mi (by omega), own_in32 hi (by omega)] at h
  have f1' : (((mi : Int) - (lo : Int)).toNat) = mi - lo := by omega
  have f2' : (((hi : Int) - (mi : Int)).toNat) = hi - mi := by omega
  unfold f0 v0_152 w0_149_lineBytes w0_149_crFirst w0_149_requestLine
  rw [elo, emi, ehi, own_in32 lo (by omega), own_in32 mi (by omega), own_in32 hi (by omega), f1', f2']
  generalize B0_59 q0 = B
  obtain ⟨r1, r2⟩ := own_end B lo (mi - lo) lo 0 0 0 false (by omega) ⟨Nat.le_refl _, by omega, Or.inl ⟨rfl, rfl⟩⟩ rfl
  have ez : Int32.ofNat 0 = (0 : Int32) := rfl
  rw [ez] at r1 r2
  have g1 := own_f7 B lo mi (by omega) (by omega)
  have g2 := own_f7 B lo hi (by omega) (by omega)
  rw [g1, g2]
  by_cases c : (endsF B (mi - lo) (Int32.ofNat lo) 0 0 0).1 = 0
  · rw [if_pos c]
    obtain ⟨n', s', t1, t2, t3, t4⟩ := r2 c
    rw [t1, t2]
    rw [show lo + (mi - lo) = mi by omega] at t3 t4
    obtain ⟨u1, -⟩ := own_end B lo (hi - mi) mi n' _ _ s' (by omega) t3 rfl
    have t5 := t4 (hi - mi)
    rw [show mi - lo + (hi - mi) = hi - lo by omega] at t5
    rw [u1, t5, r1]
    generalize own_b (own_R B lo (mi - lo) lo false false) = y
    cases own_R B lo (hi - mi) mi s' false with
    | false => rw [if_pos (show own_b false = (0 : Int32) from rfl), if_pos rfl, if_pos (show (0 : Int32) = own_b false from rfl)]
    | true => rw [if_neg (show ¬ own_b true = (0 : Int32) by decide), if_pos rfl, if_pos (show (1 : Int32) = own_b true from rfl)]
  · rw [if_neg c]
    rw [r1] at c ⊢
    cases d : own_R B lo (mi - lo) lo false false with
    | false => rw [d] at c; exact absurd rfl c
    | true =>
      have d2 := own_R_pre B lo (mi - lo) (hi - mi) lo false false d
      rw [show mi - lo + (hi - mi) = hi - lo by omega] at d2
      rw [d2]; rfl

set_option maxRecDepth 65536 in
set_option maxHeartbeats 40000000 in
theorem comes_1 {Post : Tables → Env → Array Value → State → Outcome → State → Prop} (hpost : ∀ tb e args s v u, (limb_1_1.after args s (.returned v) u = true ∧ limb_1_2.after args s (.returned v) u = true ∧ True) → FrameEnd s (.returned v) u (Jvm.fieldLocs frame_1_writes args s ++ Jvm.arrayLocs frame_1_arrays args s ++ Jvm.staticLocs frame_1_statics s) 16 128 → Post tb e args s (.returned v) u) :
    ArmFor flags0 classFile x code maxLocals ret World_1 tables_1 room_1 Calls_1 rest_1 Pre_1 Post := by
  intro l hfl _ _ p e ha hc hk s m args below hf hA hF happ hP
  obtain ⟨hcalls, hrest, hpre⟩ := hP
  obtain ⟨-, -, -, hnamed, -, -, -, hat⟩ := (Spec.applies_iff hf).mp happ
  obtain ⟨hg, hn⟩ := and_e (Cond.before_iff.mp (show (Jvm.Cond.and given_1 narrow_1).before args s = true from hpre))
  obtain ⟨u1, u2⟩ := and_e hg
  obtain ⟨u3, u4⟩ := and_e u2
  obtain ⟨u5, u6⟩ := and_e u4
  obtain ⟨u7, u8⟩ := and_e u6
  obtain ⟨w0, w1, w2, w3, rfl⟩ : ∃ w0 w1 w2 w3 : Value, args = #[w0, w1, w2, w3] := by
    have hs : args.size = 4 := by simpa [Cond.value, given_1] using u1
    obtain ⟨L⟩ := args
    match L, hs with
    | [w0, w1, w2, w3], _ => exact ⟨w0, w1, w2, w3, rfl⟩
  have hw := fun d (hd : d ∈ tables_1) => atoms_spec (ws := Jvm.Cond.code x code maxLocals ret :: tables_1) hat d (List.mem_cons_of_mem _ hd)
  have hfit : Fit s := fun {y c} hc i hi => by
    obtain ⟨ha, rfl⟩ := Array.getElem?_eq_some_iff.mp hc
    have q := List.all_eq_true.mp ((Array.all_eq_true_iff_forall_mem.mp hF) _ (Array.getElem_mem ha)) i (List.mem_range.mpr hi)
    simpa [Array.getElem?_eq_getElem hi] using q
  obtain ⟨i0, ei0⟩ := isL_v u3
  obtain rfl : w0 = (.long i0) := Option.some.inj ei0
  obtain ⟨i1, ei1⟩ := is_v u5
  obtain rfl : w1 = (.int i1) := Option.some.inj ei1
  obtain ⟨i2, ei2⟩ := is_v u7
  obtain rfl : w2 = (.int i2) := Option.some.inj ei2
  obtain ⟨i3, ei3⟩ := is_v u8
  obtain rfl : w3 = (.int i3) := Option.some.inj ei3
  obtain ⟨n, o, h1, h2, h3, v, L, rfl, ⟨hv, N⟩, hq⟩ := rm0 l s _ hw tables_1 i0 i1 i2 i3  s.heap s.heap.size (Nat.le_refl _)  p e ha hc hk s m _ below hf ((Spec.applies_iff_loose hf).mp happ).1 ⟨rfl, State.Warmed39.refl s, rfl⟩ trivial
  rw [own_law i0 i1 i2 i3] at hv
  subst hv
  refine ⟨n, _, h1, h2, h3, hpost _ _ _ _ _ _ ⟨Cond.after_iff.mpr rfl, Cond.after_iff.mpr (eq_i res_at (Term.int_eval (1)) rfl), trivial⟩ ⟨hq.1, hq.2.1, (hq.2.2.sift fun y hy => Or.inr (N y hy)).mono (by decide) (by decide)⟩⟩
theorem main_1_1 : Claimed_1_1 := comes_1 fun _ _ _ _ _ _ h hF => ⟨h.1, hF⟩
theorem main_1_2 : Claimed_1_2 := comes_1 fun _ _ _ _ _ _ h hF => ⟨h.2.1, hF⟩
end Jvm.Pilot.@@N@@
namespace Jvm.Pilot.@@N@@
open Jvm Jvm.ClassFile Sem Op Lib Jvm.Free Jvm.Stand Jvm.Pilot.@@N@@.Jvm.D
/-! MADE BY PROGRAM (witnessworld.py) out of the Statement's table words and the real class files: 11 classes; the members and pool entries that the words name. The judged class is class 1, her method 5. -/
namespace start1
open Jvm.ClassFile
def u (s : String) : CpInfo := .utf8 (stringToUtf16 s)
/-- a pool by its gaps: so many unusable entries, then the entry; so many at the end -/
def gap : Nat → List CpInfo → List CpInfo
  | 0, r => r
  | n + 1, r => .unusable :: gap n r
def poolList (es : List (Nat × CpInfo)) (last : Nat) : List CpInfo := es.foldr (fun e r => gap e.1 (e.2 :: r)) (gap last [])
def pool (es : List (Nat × CpInfo)) (last : Nat) : Array CpInfo := ⟨poolList es last⟩
def fileOf (pool : Array CpInfo) (this : Nat) (attrs : Array Attribute := #[]) (ms : Array MethodInfo := #[]) (fl : Nat := 33) (sup : Nat := 0) (ifs : Array Nat := #[]) (fds : Array FieldInfo := #[]) : ClassFile where
  minorVersion := 0
  majorVersion := 65
  constantPool := pool
  accessFlags := fl
  thisClass := this
  superClass := sup
  interfaces := ifs
  fields := fds
  methods := ms
  attributes := attrs
def plain (name : String) (sup : Option ClassId) : Class where
  name := name
  kind := .ordinary
  loader := none
  accessFlags := 33
  super := sup
  interfaces := #[]
  cf := none
  fields := #[]
  methods := #[]
  instanceTypes := #[]
  staticTypes := #[]
  resolved := #[]
  callSites := []
  init := .initialized
  statics := none
  mirror := none

def pool0 : Array CpInfo := pool [(5, u "<init>"), (0, u "()V"), (1, .class_ 10), (1, u "java/lang/Object")] 113

def k0c0 : Code := { maxStack := 0, maxLocals := 1, code := object_method_1_code, exceptionTable := #[], attributes := #[] }
def k0m0 : Method := { name := "<init>", desc := "()V", sig := { parameters := [], returnType := none }, accessFlags := 1, code := some k0c0 }
/-- java/lang/Object -/
def k0 : Class := { plain "java/lang/Object" none with
  accessFlags := 33
  interfaces := #[]
  cf := some (fileOf pool0 8 #[] #[{ accessFlags := 1, nameIndex := 5, descriptorIndex := 6, attributes := #[] }] 33 0 #[] #[])
  fields := #[]
  methods := #[k0m0]
  instanceTypes := #[]
  staticTypes := #[]
  resolved := Array.replicate 124 none
  statics := none }

def pool1 : Array CpInfo := pool [(2, .class_ 4), (0, .nameAndType 5 6), (0, u "java/lang/Object"), (0, u "<init>"), (0, u "()V"), (0, .methodref 8 9), (0, .class_ 10), (0, .nameAndType 11 12), (0, u "com/example/dosewire/dosewire/server/net/EndEndsInPinLaw"), (0, u "lfAt"), (0, u "([BIII)Z"), (0, .methodref 8 14), (0, .nameAndType 15 16), (0, u "emptyLine"), (0, u "([BII)Z"), (0, .methodref 8 18), (0, .nameAndType 19 20), (0, u "pick"), (0, u "(JI)B"), (0, .integer 2147483647), (0, .methodref 23 24), (0, .class_ 25), (0, .nameAndType 26 27), (0, u "java/lang/Math"), (0, u "min"), (0, u "(II)I"), (0, .methodref 23 29), (0, .nameAndType 30 27), (0, u "max"), (0, .class_ 32), (0, u "com/example/dosewire/dosewire/server/net/RequestHead$End"), (0, .methodref 31 3), (0, .methodref 31 35), (0, .nameAndType 36 16), (0, u "endsIn"), (0, .methodref 8 38), (0, .nameAndType 39 16), (0, u "ends"), (5, u "law"), (0, u "(JIII)Z")] 6

def k1m0 : Method := { name := "<init>", desc := "()V", sig := { parameters := [], returnType := none }, accessFlags := 2, code := none }
def k1c1 : Code := { maxStack := 4, maxLocals := 5, code := method_2_code, exceptionTable := #[], attributes := #[] }
def k1m1 : Method := { name := "pick", desc := "(JI)B", sig := { parameters := [.long, .int], returnType := some .byte }, accessFlags := 10, code := some k1c1 }
def k1c2 : Code := { maxStack := 2, maxLocals := 4, code := method_3_code, exceptionTable := #[], attributes := #[] }
def k1m2 : Method := { name := "lfAt", desc := "([BIII)Z", sig := { parameters := [(.array .byte), .int, .int, .int], returnType := some .boolean }, accessFlags := 10, code := some k1c2 }
def k1c3 : Code := { maxStack := 3, maxLocals := 3, code := method_4_code, exceptionTable := #[], attributes := #[] }
def k1m3 : Method := { name := "emptyLine", desc := "([BII)Z", sig := { parameters := [(.array .byte), .int, .int], returnType := some .boolean }, accessFlags := 10, code := some k1c3 }
def k1c4 : Code := { maxStack := 4, maxLocals := 6, code := method_5_code, exceptionTable := #[], attributes := #[] }
def k1m4 : Method := { name := "ends", desc := "([BII)Z", sig := { parameters := [(.array .byte), .int, .int], returnType := some .boolean }, accessFlags := 10, code := some k1c4 }
def k1c5 : Code := { maxStack := 5, maxLocals := 15, code := code, exceptionTable := #[], attributes := #[] }
def k1m5 : Method := { name := "law", desc := "(JIII)Z", sig := { parameters := [.long, .int, .int, .int], returnType := some .boolean }, accessFlags := 9, code := some k1c5 }
/-- com/example/dosewire/dosewire/server/net/EndEndsInPinLaw -/
def k1 : Class := { plain "com/example/dosewire/dosewire/server/net/EndEndsInPinLaw" (some 0) with
  accessFlags := 49
  interfaces := #[]
  cf := some (fileOf pool1 8 #[] #[{ accessFlags := 2, nameIndex := 5, descriptorIndex := 6, attributes := #[] }, { accessFlags := 10, nameIndex := 19, descriptorIndex := 20, attributes := #[] }, { accessFlags := 10, nameIndex := 11, descriptorIndex := 12, attributes := #[] }, { accessFlags := 10, nameIndex := 15, descriptorIndex := 16, attributes := #[] }, { accessFlags := 10, nameIndex := 39, descriptorIndex := 16, attributes := #[] }, { accessFlags := 9, nameIndex := 45, descriptorIndex := 46, attributes := #[] }] 49 2 #[] #[])
  fields := #[]
  methods := #[k1m0, k1m1, k1m2, k1m3, k1m4, k1m5]
  instanceTypes := #[]
  staticTypes := #[]
  resolved := Array.replicate 53 none
  statics := none }

def pool2 : Array CpInfo := pool [(1, .class_ 2), (0, u "java/lang/Math"), (1, .class_ 6), (1, u "java/lang/Object"), (0, u "<init>"), (0, u "()V"), (89, .class_ 100), (1, u "java/lang/Math$RandomNumberGeneratorHolder"), (71, u "negativeZeroFloatBits"), (0, u "J"), (2, u "negativeZeroDoubleBits"), (21, u "max"), (2, u "min"), (43, u "$assertionsDisabled"), (0, u "Z"), (88, u "(II)I"), (2, u "twoToTheDoubleScaleDown"), (0, u "D"), (4, u "twoToTheDoubleScaleUp"), (9, u "E"), (3, u "PI"), (2, u "TAU"), (2, u "DEGREES_TO_RADIANS"), (0, u "RADIANS_TO_DEGREES")] 94

def k2m0 : Method := { name := "<init>", desc := "()V", sig := { parameters := [], returnType := none }, accessFlags := 2, code := none }
def k2c1 : Code := { maxStack := 2, maxLocals := 2, code := jdk_29_method_65_code, exceptionTable := #[], attributes := #[] }
def k2m1 : Method := { name := "max", desc := "(II)I", sig := { parameters := [.int, .int], returnType := some .int }, accessFlags := 9, code := some k2c1 }
def k2c2 : Code := { maxStack := 2, maxLocals := 2, code := jdk_29_method_69_code, exceptionTable := #[], attributes := #[] }
def k2m2 : Method := { name := "min", desc := "(II)I", sig := { parameters := [.int, .int], returnType := some .int }, accessFlags := 9, code := some k2c2 }
/-- java/lang/Math -/
def k2 : Class := { plain "java/lang/Math" (some 0) with
  accessFlags := 49
  interfaces := #[]
  cf := some (fileOf pool2 1 #[.nestMembers #[98]] #[{ accessFlags := 2, nameIndex := 7, descriptorIndex := 8, attributes := #[] }, { accessFlags := 9, nameIndex := 198, descriptorIndex := 335, attributes := #[] }, { accessFlags := 9, nameIndex := 201, descriptorIndex := 335, attributes := #[] }] 49 4 #[] #[{ accessFlags := 25, nameIndex := 354, descriptorIndex := 339, attributes := #[] }, { accessFlags := 25, nameIndex := 358, descriptorIndex := 339, attributes := #[] }, { accessFlags := 25, nameIndex := 361, descriptorIndex := 339, attributes := #[] }, { accessFlags := 26, nameIndex := 364, descriptorIndex := 339, attributes := #[] }, { accessFlags := 26, nameIndex := 365, descriptorIndex := 339, attributes := #[] }, { accessFlags := 26, nameIndex := 172, descriptorIndex := 173, attributes := #[] }, { accessFlags := 26, nameIndex := 176, descriptorIndex := 173, attributes := #[] }, { accessFlags := 8, nameIndex := 344, descriptorIndex := 339, attributes := #[] }, { accessFlags := 8, nameIndex := 338, descriptorIndex := 339, attributes := #[] }, { accessFlags := 4120, nameIndex := 245, descriptorIndex := 246, attributes := #[] }])
  fields := #[{ name := "E", type := .double, accessFlags := 25, slot := 0, constantValue := 0 }, { name := "PI", type := .double, accessFlags := 25, slot := 1, constantValue := 0 }, { name := "TAU", type := .double, accessFlags := 25, slot := 2, constantValue := 0 }, { name := "DEGREES_TO_RADIANS", type := .double, accessFlags := 26, slot := 3, constantValue := 0 }, { name := "RADIANS_TO_DEGREES", type := .double, accessFlags := 26, slot := 4, constantValue := 0 }, { name := "negativeZeroFloatBits", type := .long, accessFlags := 26, slot := 5, constantValue := 0 }, { name := "negativeZeroDoubleBits", type := .long, accessFlags := 26, slot := 6, constantValue := 0 }, { name := "twoToTheDoubleScaleUp", type := .double, accessFlags := 8, slot := 7, constantValue := 0 }, { name := "twoToTheDoubleScaleDown", type := .double, accessFlags := 8, slot := 8, constantValue := 0 }, { name := "$assertionsDisabled", type := .boolean, accessFlags := 4120, slot := 9, constantValue := 0 }]
  methods := #[k2m0, k2m1, k2m2]
  instanceTypes := #[]
  staticTypes := #[.double, .double, .double, .double, .double, .long, .long, .double, .double, .boolean]
  resolved := Array.replicate 460 none
  statics := none }

def pool3 : Array CpInfo := pool [(1, .class_ 2), (0, u "com/example/dosewire/dosewire/server/net/HeadEnd"), (0, .class_ 4), (0, u "java/lang/Object")] 4

/-- com/example/dosewire/dosewire/server/net/HeadEnd -/
def k3 : Class := { plain "com/example/dosewire/dosewire/server/net/HeadEnd" (some 0) with
  accessFlags := 1536
  interfaces := #[]
  cf := some (fileOf pool3 1 #[] #[] 1536 3 #[] #[])
  fields := #[]
  methods := #[]
  instanceTypes := #[]
  staticTypes := #[]
  resolved := Array.replicate 9 none
  statics := none }

def pool4 : Array CpInfo := pool [(1, .methodref 2 3), (0, .class_ 4), (0, .nameAndType 5 6), (0, u "java/lang/Object"), (0, u "<init>"), (0, u "()V"), (0, .fieldref 8 9), (0, .class_ 10), (0, .nameAndType 11 12), (0, u "com/example/dosewire/dosewire/server/net/RequestHead$End"), (0, u "lineBytes"), (0, u "I"), (0, .fieldref 8 14), (0, .nameAndType 15 16), (0, u "crFirst"), (0, u "Z"), (0, .fieldref 8 18), (0, .nameAndType 19 16), (0, u "requestLine"), (0, .class_ 21), (0, u "com/example/dosewire/dosewire/server/net/HeadEnd"), (2, u "endsIn"), (0, u "([BII)Z"), (6, .class_ 33), (0, u "com/example/dosewire/dosewire/server/net/RequestHead")] 2

def k4c0 : Code := { maxStack := 1, maxLocals := 1, code := prog_145_method_1_code, exceptionTable := #[], attributes := #[] }
def k4m0 : Method := { name := "<init>", desc := "()V", sig := { parameters := [], returnType := none }, accessFlags := 0, code := some k4c0 }
def k4c1 : Code := { maxStack := 4, maxLocals := 6, code := prog_145_method_2_code, exceptionTable := #[], attributes := #[] }
def k4m1 : Method := { name := "endsIn", desc := "([BII)Z", sig := { parameters := [(.array .byte), .int, .int], returnType := some .boolean }, accessFlags := 1, code := some k4c1 }
/-- com/example/dosewire/dosewire/server/net/RequestHead$End -/
def k4 : Class := { plain "com/example/dosewire/dosewire/server/net/RequestHead$End" (some 0) with
  accessFlags := 48
  interfaces := #[3]
  cf := some (fileOf pool4 8 #[.nestHost 32] #[{ accessFlags := 0, nameIndex := 5, descriptorIndex := 6, attributes := #[] }, { accessFlags := 1, nameIndex := 24, descriptorIndex := 25, attributes := #[] }] 48 2 #[20] #[{ accessFlags := 2, nameIndex := 19, descriptorIndex := 16, attributes := #[] }, { accessFlags := 2, nameIndex := 11, descriptorIndex := 12, attributes := #[] }, { accessFlags := 2, nameIndex := 15, descriptorIndex := 16, attributes := #[] }])
  fields := #[{ name := "requestLine", type := .boolean, accessFlags := 2, slot := 0, constantValue := 0 }, { name := "lineBytes", type := .int, accessFlags := 2, slot := 1, constantValue := 0 }, { name := "crFirst", type := .boolean, accessFlags := 2, slot := 2, constantValue := 0 }]
  methods := #[k4m0, k4m1]
  instanceTypes := #[.boolean, .int, .boolean]
  staticTypes := #[]
  resolved := Array.replicate 36 none
  statics := none }

def pool5 : Array CpInfo := pool [(1, u "java/lang/Cloneable"), (0, .class_ 1), (0, u "java/lang/Object"), (0, .class_ 3)] 3

/-- java/lang/Cloneable -/
def k5 : Class := { plain "java/lang/Cloneable" (some 0) with
  accessFlags := 1537
  interfaces := #[]
  cf := some (fileOf pool5 2 #[] #[] 1537 4 #[] #[])
  fields := #[]
  methods := #[]
  instanceTypes := #[]
  staticTypes := #[]
  resolved := Array.replicate 8 none
  statics := none }

def pool6 : Array CpInfo := pool [(1, u "java/io/Serializable"), (0, .class_ 1), (0, u "java/lang/Object"), (0, .class_ 3)] 3

/-- java/io/Serializable -/
def k6 : Class := { plain "java/io/Serializable" (some 0) with
  accessFlags := 1537
  interfaces := #[]
  cf := some (fileOf pool6 2 #[] #[] 1537 4 #[] #[])
  fields := #[]
  methods := #[]
  instanceTypes := #[]
  staticTypes := #[]
  resolved := Array.replicate 8 none
  statics := none }

/-- the primitive byte -/
def k7 : Class := { plain "byte" none with kind := .primitive 'B', accessFlags := 0x411 }
/-- [B -/
def k8 : Class := { plain "[B" (some 0) with kind := .array 7 .byte, interfaces := #[5, 6], accessFlags := 1041 }

/-- the primitive int -/
def k9 : Class := { plain "int" none with kind := .primitive 'I', accessFlags := 0x411 }
/-- [I -/
def k10 : Class := { plain "[I" (some 0) with kind := .array 9 .int, interfaces := #[5, 6], accessFlags := 1041 }

def heap : Heap := #[]
def classes : Array Class := #[k0, k1, k2, k3, k4, k5, k6, k7, k8, k9, k10]
def interned : List (Array UInt16 × Addr) := []
def slotsUsed : Nat := 0
def theMethod : MethodId := ⟨1, 5⟩
def args0 : Array Value := #[.long 5, .int 7, .int 3, .int 3]
def aboutOver (below : List Frame) : State where
  vm := { classes := classes, interned := interned.toArray }
  heap := heap
  slotsUsed := slotsUsed
  threads := #[{ frames := .invoking theMethod args0 :: below }]
def below0 : List Frame := [.native { method := ⟨0, 0⟩, args := #[] }]
def about1 : State := aboutOver below0
def p0 : Program := .bare "" "" ""
def e0 : Env := launch0.env 0 0 0
theorem w_frames : about1.frames = Frame.invoking theMethod args0 :: below0 := rfl
set_option maxRecDepth 65536 in
theorem w_args : argsFit about1.vm theMethod args0 = true := by decide +kernel
set_option maxRecDepth 65536 in
theorem w_heap : heapFits about1 = true := by decide +kernel
set_option maxRecDepth 65536 in
theorem w_runnable : about1.curStatus? = some .runnable := by decide +kernel
set_option maxRecDepth 65536 in
theorem w_alone : about1.alone = true := by decide +kernel
set_option maxRecDepth 65536 in
theorem w_named : about1.methodNamed? x = some theMethod := by decide +kernel
set_option maxRecDepth 65536 in
theorem w_hears : about1.hears theMethod below0 = true := by decide +kernel
set_option maxRecDepth 65536 in
theorem w_ripe : about1.ripe theMethod args0 below0 = true := by decide +kernel
theorem w_running : about1.status = .running := rfl
set_option maxRecDepth 65536 in
theorem w_room : about1.hasRoom e0.platform room_1 = true :=
  launch0.hasRoom_least _ room_1 (by decide +kernel) (by decide +kernel) (by decide +kernel) (by decide +kernel) (by decide +kernel) (by decide +kernel)
theorem allAtoms_all (ts : List Jvm.Cond) (a : Array Jvm.Value) (st : Jvm.State) : (allAtoms ts).before a st = ts.all (fun c => c.before a st) := by
  induction ts with
  | nil => rfl
  | cons c t ih =>
    show (Jvm.Cond.and c (allAtoms t)).before a st = _
    rw [Jvm.Cond.before_and, ih, List.all_cons]
def words1 : List Jvm.Cond := Jvm.Cond.code x code maxLocals ret :: tables_1
/-- a 'code' word, met by the world's own term for the bytes: nothing is compared byte by byte -/
theorem code_word {y : MethodName} {bytes : ByteArray} {mx : Nat} {rt : Option FieldType} {a : Array Value} {s : State} {m : MethodId} {meth : Method} {c : Code} (h1 : s.methodNamed? y = some m) (h2 : s.vm.method? m = some meth) (h3 : meth.code = some c) (h4 : c.code = bytes)
    (h5 : (c.maxLocals == mx && c.exceptionTable.isEmpty && decide (c.maxStack ≤ mostOperands) && decide (meth.sig.returnType = rt) && !meth.locks && decide (parseMethodDescriptor y.desc = some meth.sig)) = true) : (Jvm.Cond.code y bytes mx rt).before a s = true := by
  simp only [Bool.and_eq_true, beq_iff_eq, Bool.not_eq_true', decide_eq_true_eq] at h5
  obtain ⟨⟨⟨⟨⟨g1, g2⟩, g3⟩, g4⟩, g5⟩, g6⟩ := h5
  simp [Cond.before, Cond.holds, Cond.value, h1, h2, h3, h4, g1, g2, g3, g4, g5, g6]
def isCode : Jvm.Cond → Bool
  | .code _ _ _ _ => true
  | _ => false
theorem all_split {L : List Jvm.Cond} {P : Jvm.Cond → Bool} (h1 : L.all (fun c => isCode c || P c) = true) (h2 : ∀ c ∈ L.filter isCode, P c = true) : L.all P = true := by
  refine List.all_eq_true.mpr fun c hc => ?_
  have h := List.all_eq_true.mp h1 c hc
  rcases Bool.eq_false_or_eq_true (isCode c) with hi | hi
  · exact h2 c (List.mem_filter.mpr ⟨hc, hi⟩)
  · simpa [hi] using h
set_option maxRecDepth 65536 in
theorem w_c0 : (Jvm.Cond.code x code maxLocals ret).before args0 about1 = true := code_word (m := ⟨1, 5⟩) (meth := k1m5) (c := k1c5) (by decide +kernel) rfl rfl rfl (by decide +kernel)
set_option maxRecDepth 65536 in
theorem w_c1 : (Jvm.Cond.code ({ cls := "com/example/dosewire/dosewire/server/net/EndEndsInPinLaw", name := "pick", desc := "(JI)B" } : Jvm.MethodName) method_2_code (5 : Nat) (Option.some Jvm.ClassFile.FieldType.byte)).before args0 about1 = true := code_word (m := ⟨1, 1⟩) (meth := k1m1) (c := k1c1) (by decide +kernel) rfl rfl rfl (by decide +kernel)
set_option maxRecDepth 65536 in
theorem w_c2 : (Jvm.Cond.code ({ cls := "java/lang/Math", name := "min", desc := "(II)I" } : Jvm.MethodName) jdk_29_method_69_code (2 : Nat) (Option.some Jvm.ClassFile.FieldType.int)).before args0 about1 = true := code_word (m := ⟨2, 2⟩) (meth := k2m2) (c := k2c2) (by decide +kernel) rfl rfl rfl (by decide +kernel)
set_option maxRecDepth 65536 in
theorem w_c3 : (Jvm.Cond.code ({ cls := "java/lang/Math", name := "max", desc := "(II)I" } : Jvm.MethodName) jdk_29_method_65_code (2 : Nat) (Option.some Jvm.ClassFile.FieldType.int)).before args0 about1 = true := code_word (m := ⟨2, 1⟩) (meth := k2m1) (c := k2c1) (by decide +kernel) rfl rfl rfl (by decide +kernel)
set_option maxRecDepth 65536 in
theorem w_c4 : (Jvm.Cond.code ({ cls := "com/example/dosewire/dosewire/server/net/RequestHead$End", name := "<init>", desc := "()V" } : Jvm.MethodName) prog_145_method_1_code (1 : Nat) (Option.none : Option Jvm.ClassFile.FieldType)).before args0 about1 = true := code_word (m := ⟨4, 0⟩) (meth := k4m0) (c := k4c0) (by decide +kernel) rfl rfl rfl (by decide +kernel)
set_option maxRecDepth 65536 in
theorem w_c5 : (Jvm.Cond.code ({ cls := "java/lang/Object", name := "<init>", desc := "()V" } : Jvm.MethodName) object_method_1_code (1 : Nat) (Option.none : Option Jvm.ClassFile.FieldType)).before args0 about1 = true := code_word (m := ⟨0, 0⟩) (meth := k0m0) (c := k0c0) (by decide +kernel) rfl rfl rfl (by decide +kernel)
set_option maxRecDepth 65536 in
theorem w_c6 : (Jvm.Cond.code ({ cls := "com/example/dosewire/dosewire/server/net/RequestHead$End", name := "endsIn", desc := "([BII)Z" } : Jvm.MethodName) prog_145_method_2_code (6 : Nat) (Option.some Jvm.ClassFile.FieldType.boolean)).before args0 about1 = true := code_word (m := ⟨4, 1⟩) (meth := k4m1) (c := k4c1) (by decide +kernel) rfl rfl rfl (by decide +kernel)
set_option maxRecDepth 65536 in
theorem w_c7 : (Jvm.Cond.code ({ cls := "com/example/dosewire/dosewire/server/net/EndEndsInPinLaw", name := "ends", desc := "([BII)Z" } : Jvm.MethodName) method_5_code (6 : Nat) (Option.some Jvm.ClassFile.FieldType.boolean)).before args0 about1 = true := code_word (m := ⟨1, 4⟩) (meth := k1m4) (c := k1c4) (by decide +kernel) rfl rfl rfl (by decide +kernel)
set_option maxRecDepth 65536 in
theorem w_c8 : (Jvm.Cond.code ({ cls := "com/example/dosewire/dosewire/server/net/EndEndsInPinLaw", name := "lfAt", desc := "([BIII)Z" } : Jvm.MethodName) method_3_code (4 : Nat) (Option.some Jvm.ClassFile.FieldType.boolean)).before args0 about1 = true := code_word (m := ⟨1, 2⟩) (meth := k1m2) (c := k1c2) (by decide +kernel) rfl rfl rfl (by decide +kernel)
set_option maxRecDepth 65536 in
theorem w_c9 : (Jvm.Cond.code ({ cls := "com/example/dosewire/dosewire/server/net/EndEndsInPinLaw", name := "emptyLine", desc := "([BII)Z" } : Jvm.MethodName) method_4_code (3 : Nat) (Option.some Jvm.ClassFile.FieldType.boolean)).before args0 about1 = true := code_word (m := ⟨1, 3⟩) (meth := k1m3) (c := k1c3) (by decide +kernel) rfl rfl rfl (by decide +kernel)
def codes1 : List Jvm.Cond := [Jvm.Cond.code x code maxLocals ret, Jvm.Cond.code ({ cls := "com/example/dosewire/dosewire/server/net/EndEndsInPinLaw", name := "pick", desc := "(JI)B" } : Jvm.MethodName) method_2_code (5 : Nat) (Option.some Jvm.ClassFile.FieldType.byte), Jvm.Cond.code ({ cls := "java/lang/Math", name := "min", desc := "(II)I" } : Jvm.MethodName) jdk_29_method_69_code (2 : Nat) (Option.some Jvm.ClassFile.FieldType.int), Jvm.Cond.code ({ cls := "java/lang/Math", name := "max", desc := "(II)I" } : Jvm.MethodName) jdk_29_method_65_code (2 : Nat) (Option.some Jvm.ClassFile.FieldType.int), Jvm.Cond.code ({ cls := "com/example/dosewire/dosewire/server/net/RequestHead$End", name := "<init>", desc := "()V" } : Jvm.MethodName) prog_145_method_1_code (1 : Nat) (Option.none : Option Jvm.ClassFile.FieldType), Jvm.Cond.code ({ cls := "java/lang/Object", name := "<init>", desc := "()V" } : Jvm.MethodName) object_method_1_code (1 : Nat) (Option.none : Option Jvm.ClassFile.FieldType), Jvm.Cond.code ({ cls := "com/example/dosewire/dosewire/server/net/RequestHead$End", name := "endsIn", desc := "([BII)Z" } : Jvm.MethodName) prog_145_method_2_code (6 : Nat) (Option.some Jvm.ClassFile.FieldType.boolean), Jvm.Cond.code ({ cls := "com/example/dosewire/dosewire/server/net/EndEndsInPinLaw", name := "ends", desc := "([BII)Z" } : Jvm.MethodName) method_5_code (6 : Nat) (Option.some Jvm.ClassFile.FieldType.boolean), Jvm.Cond.code ({ cls := "com/example/dosewire/dosewire/server/net/EndEndsInPinLaw", name := "lfAt", desc := "([BIII)Z" } : Jvm.MethodName) method_3_code (4 : Nat) (Option.some Jvm.ClassFile.FieldType.boolean), Jvm.Cond.code ({ cls := "com/example/dosewire/dosewire/server/net/EndEndsInPinLaw", name := "emptyLine", desc := "([BII)Z" } : Jvm.MethodName) method_4_code (3 : Nat) (Option.some Jvm.ClassFile.FieldType.boolean)]
set_option maxRecDepth 65536 in
theorem codes_eq : words1.filter isCode = codes1 := rfl
theorem w_codes : ∀ c ∈ words1.filter isCode, c.before args0 about1 = true := by
  rw [codes_eq]
  intro c hc
  simp only [codes1, List.mem_cons, List.not_mem_nil, or_false] at hc
  rcases hc with rfl | rfl | rfl | rfl | rfl | rfl | rfl | rfl | rfl | rfl
  · exact w_c0
  · exact w_c1
  · exact w_c2
  · exact w_c3
  · exact w_c4
  · exact w_c5
  · exact w_c6
  · exact w_c7
  · exact w_c8
  · exact w_c9
set_option maxRecDepth 65536 in
theorem w_t1 : (words1.take 24).all (fun c => isCode c || c.before args0 about1) = true := by decide +kernel
set_option maxRecDepth 65536 in
theorem w_t2 : (words1.drop 24).all (fun c => isCode c || c.before args0 about1) = true := by decide +kernel
theorem w_tables : (allAtoms (Jvm.Cond.code x code maxLocals ret :: tables_1)).before args0 about1 = true := by
  rw [allAtoms_all]
  show words1.all (fun c => c.before args0 about1) = true
  refine all_split ?_ w_codes
  rw [← List.take_append_drop 24 words1, List.all_append, w_t1, w_t2]
  rfl
set_option maxRecDepth 65536 in
theorem w_case : (Jvm.Cond.and given_1 narrow_1).before args0 about1 = true := by decide +kernel
theorem w_applies : (headSpec (Jvm.Cond.code x code maxLocals ret :: tables_1) room_1).applies x e0.platform about1 = true :=
  (Spec.applies_iff w_frames).mpr ⟨w_running, w_runnable, w_alone, w_named, w_hears, w_ripe, w_room, w_tables⟩
theorem atStart : AtStart classFile x code maxLocals ret World_1 tables_1 room_1 Calls_1 rest_1 Pre_1 launch0 p0 e0 about1 theMethod args0 below0 :=
  ⟨lists_1, trivial, launch0.admits_env _ _ _, launch0.least_env, fairChoices_fair.cas, fairChoices_fair.clock, w_frames, w_args, w_heap, w_applies, trivial, trivial, w_case⟩
end start1
theorem witness_1 : WitnessClaimed_1 := ⟨start1.p0, start1.e0, start1.about1, start1.theMethod, start1.args0, start1.below0, start1.atStart⟩
end Jvm.Pilot.@@N@@

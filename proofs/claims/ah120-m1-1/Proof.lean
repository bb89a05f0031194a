import JvmDerived
import JvmDerived.Pilot.@@N@@Statement
import JvmDerived.Pilot.@@N@@Code
set_option linter.unusedVariables false
set_option linter.unusedSimpArgs false
@@BLOCK:NumsL.lean.txt@@
namespace Jvm.Pilot.@@N@@.Fl
open Jvm Jvm.FP Jvm.FP.Core
theorem own_quot {a b : UInt64} {i j : Int} (ha : DInt i a) (hb : DInt j b) (hj : 0 < j) : ∃ s : Bool, (i ≠ 0 → s = decide (i < 0)) ∧ val64 (Core.ddiv a b) = roundRatio b64 s i.natAbs j.natAbs 0 := by
  rw [val64_ddiv]
  unfold DInt at ha hb
  cases hx : val64 a with
  | nan => rw [hx] at ha; exact ha.elim
  | inf s => rw [hx] at ha; exact ha.elim
  | fin s c q =>
    cases hy : val64 b with
    | nan => rw [hy] at hb; exact hb.elim
    | inf s => rw [hy] at hb; exact hb.elim
    | fin t d r =>
      rw [hx] at ha
      rw [hy] at hb
      have h1 := whole_natAbs ha
      have h2 := whole_natAbs hb
      have hd : d ≠ 0 := fun q => by have := (whole_zero hb).mp q; omega
      have ht : t = false := by rw [whole_sign hb (by omega)]; simp; omega
      subst ht
      refine ⟨(s != false), fun hi => by rw [whole_sign ha hi]; simp, ?_⟩
      show (if d = 0 then (if c = 0 then Datum.nan else .inf (s != false)) else roundRatio b64 (s != false) c d (q - r)) = _
      rw [if_neg hd]
      refine roundRatio_congr (by omega) (by omega) ?_
      have p1 := Nat.two_pow_pos ((-q).toNat + r.toNat)
      have p2 := Nat.two_pow_pos (q.toNat + (-r).toNat)
      have key : c * j.natAbs * 2 ^ (q.toNat + (-r).toNat) = i.natAbs * d * 2 ^ ((-q).toNat + r.toNat) := by
        rw [Nat.pow_add, Nat.pow_add]
        calc c * j.natAbs * (2 ^ q.toNat * 2 ^ (-r).toNat) = (c * 2 ^ q.toNat) * (j.natAbs * 2 ^ (-r).toNat) := by ac_rfl
          _ = (i.natAbs * 2 ^ (-q).toNat) * (d * 2 ^ r.toNat) := by rw [h1, h2]
          _ = i.natAbs * d * (2 ^ (-q).toNat * 2 ^ r.toNat) := by ac_rfl
      generalize hX : q.toNat + (-r).toNat = X at key p2
      generalize hY : (-q).toNat + r.toNat = Y at key p1
      by_cases hqr : r ≤ q
      · have e1 : X = (q - r - 0).toNat + Y := by omega
        have e2 : (0 - (q - r)).toNat = 0 := by omega
        rw [e2, Nat.pow_zero, Nat.mul_one]
        rw [e1, Nat.pow_add, ← Nat.mul_assoc] at key
        exact Nat.eq_of_mul_eq_mul_right p1 key
      · have e1 : Y = (0 - (q - r)).toNat + X := by omega
        have e2 : (q - r - 0).toNat = 0 := by omega
        rw [e2, Nat.pow_zero, Nat.mul_one]
        rw [e1, Nat.pow_add, ← Nat.mul_assoc] at key
        exact Nat.eq_of_mul_eq_mul_right p2 key
theorem own_qmin : b64.qmin = -1074 := by decide
theorem own_z0 : zval b64 (val64 Core.dconst0) = 0 := by decide +kernel
def own_P : Nat := 2 ^ 1021
theorem own_z1 : zval b64 (val64 Core.dconst1) = ((2 ^ 53 * own_P : Nat) : Int) := by decide +kernel
theorem own_P_pos : 0 < own_P := by decide +kernel
theorem own_in (A : Nat) : inUnits A 0 b64.qmin = A * (2 ^ 53 * own_P) := by
  have e : (2 : Nat) ^ ((0 : Int) - b64.qmin).toNat = 2 ^ 53 * own_P := by decide +kernel
  show A * 2 ^ ((0 : Int) - b64.qmin).toNat = _
  rw [e]
theorem own_e2 : (2 : Nat) ^ (b64.qmin - b64.qmin).toNat = 1 := by decide
theorem own_pos {s : Bool} {A B : Nat} (hA : 0 < A) (hB : 0 < B) (hb : B ≤ 2 ^ 53) : 1 ≤ zmag b64 (roundRatio b64 s A B 0) := by
  have e1 : zmag b64 (.fin false 1 b64.qmin) = 1 := by decide +kernel
  have h := zmag_roundRatio_ge (f := b64) good_b64 (s := s) (A := A) (B := B) (e := 0) (e0 := b64.qmin) (V := .fin false 1 b64.qmin) hB ⟨by decide, by decide, by decide, Or.inl rfl⟩ (Int.le_refl _) (by decide) (by
    rw [e1, own_e2, own_in, Nat.one_mul]
    have p := own_P_pos
    calc B ≤ 2 ^ 53 := hb
      _ ≤ 2 ^ 53 * own_P := Nat.le_mul_of_pos_right _ p
      _ ≤ A * (2 ^ 53 * own_P) := Nat.le_mul_of_pos_left _ hA)
  rw [e1] at h
  exact h
theorem own_ge {s : Bool} {A B : Nat} (hB : 0 < B) (h : B ≤ A) : 2 ^ 53 * own_P ≤ zmag b64 (roundRatio b64 s A B 0) := by
  have e1 : zmag b64 (.fin false (2 ^ 52) (-52)) = 2 ^ 53 * own_P := by decide +kernel
  have h := zmag_roundRatio_ge (f := b64) good_b64 (s := s) (A := A) (B := B) (e := 0) (e0 := b64.qmin) (V := .fin false (2 ^ 52) (-52)) hB ⟨by decide, by decide, by decide, Or.inr (by decide)⟩ (Int.le_refl _) (by decide) (by
    rw [e1, own_e2, own_in, Nat.mul_one, Nat.mul_comm]
    exact Nat.mul_le_mul_right _ h)
  rw [e1] at h
  exact h
theorem own_lt_aux (A B P : Nat) (h : A < B) (hb : B ≤ 2 ^ 53) : A * (2 ^ 53 * P) ≤ (2 ^ 53 - 1) * P * B := by
  have q : A * 2 ^ 53 ≤ (2 ^ 53 - 1) * B := by omega
  calc A * (2 ^ 53 * P) = (A * 2 ^ 53) * P := (Nat.mul_assoc ..).symm
    _ ≤ ((2 ^ 53 - 1) * B) * P := Nat.mul_le_mul_right _ q
    _ = (2 ^ 53 - 1) * P * B := by rw [Nat.mul_assoc, Nat.mul_comm B P, ← Nat.mul_assoc]
theorem own_lt {s : Bool} {A B : Nat} (hB : 0 < B) (h : A < B) (hb : B ≤ 2 ^ 53) : zmag b64 (roundRatio b64 s A B 0) < 2 ^ 53 * own_P := by
  have e1 : zmag b64 (.fin false (2 ^ 53 - 1) (-53)) = (2 ^ 53 - 1) * own_P := by decide +kernel
  have h := zmag_roundRatio_le (f := b64) good_b64 (s := s) (A := A) (B := B) (e := 0) (e0 := b64.qmin) (V := .fin false (2 ^ 53 - 1) (-53)) hB ⟨by decide, by decide, by decide, Or.inr (by decide)⟩ (by intro q; cases q) (Int.le_refl _) (by decide) (by
    rw [e1, own_e2, own_in, Nat.mul_one]
    exact own_lt_aux A B own_P h hb)
  rw [e1] at h
  exact Nat.lt_of_le_of_lt h (Nat.mul_lt_mul_of_pos_right (by decide) own_P_pos)
theorem own_cmp {a b : UInt64} (ha : val64 a ≠ .nan) (hb : val64 b ≠ .nan) : Core.dcmp a b = some (compare (zval b64 (val64 a)) (zval b64 (val64 b))) :=
  order_zval good_b64 (val64_fits a) (val64_fits b) ha hb
/-- what the two comparisons say of a quotient of whole numbers -/
theorem own_div {a b : UInt64} {i j : Int} (ha : DInt i a) (hb : DInt j b) (hj : 0 < j) (hj2 : j ≤ 2 ^ 53) :
    val64 (Core.ddiv a b) ≠ .nan ∧ (Core.dcmp (Core.ddiv a b) Core.dconst0 = some .gt ↔ 0 < i) ∧ (0 < i → (Core.dcmp (Core.ddiv a b) Core.dconst1 = some .lt ↔ i < j)) ∧ (0 < i → Core.dcmp (Core.ddiv a b) Core.dconst1 ≠ none) ∧ Core.dcmp (Core.ddiv a b) Core.dconst0 ≠ none := by
  obtain ⟨s, hs, e⟩ := own_quot ha hb hj
  have hn : val64 (Core.ddiv a b) ≠ .nan := by rw [e]; exact roundRatio_ne_nan _ _ _ _ _
  have n0 : val64 Core.dconst0 ≠ .nan := by decide +kernel
  have n1 : val64 Core.dconst1 ≠ .nan := by decide +kernel
  have c0 := own_cmp hn n0
  have c1 := own_cmp hn n1
  rw [own_z0] at c0
  rw [own_z1] at c1
  have hB : 0 < j.natAbs := by omega
  have hB2 : j.natAbs ≤ 2 ^ 53 := by omega
  have zv : zval b64 (val64 (Core.ddiv a b)) = signed s (zmag b64 (roundRatio b64 s i.natAbs j.natAbs 0)) := by
    rw [e]; unfold zval; rw [sgn_roundRatio]
  refine ⟨hn, ?_, ?_, fun _ => by rw [c1]; simp, by rw [c0]; simp⟩
  · rw [c0]
    by_cases hi : 0 < i
    · have hs' : s = false := by rw [hs (by omega)]; simp; omega
      have p := own_pos (s := s) (A := i.natAbs) (by omega) hB hB2
      rw [zv, hs']
      rw [hs'] at p
      simp only [signed, Bool.false_eq_true, if_false]
      constructor
      · intro _; exact hi
      · intro _
        congr 1
        rw [Int.compare_eq_gt]
        omega
    · constructor
      · intro q
        exfalso
        have q' := Int.compare_eq_gt.mp (Option.some.inj q)
        rw [zv] at q'
        by_cases h0 : i = 0
        · subst h0
          have : roundRatio b64 s (0 : Int).natAbs j.natAbs 0 = .fin s 0 b64.qmin := rfl
          rw [this] at q'
          have z : zmag b64 (.fin s 0 b64.qmin) = 0 := by cases s <;> decide +kernel
          rw [z] at q'
          cases s <;> simp [signed] at q'
        · have hs' : s = true := by rw [hs h0]; simp; omega
          rw [hs'] at q'
          simp only [signed, if_true] at q'
          omega
      · intro q; omega
  · intro hi
    have hs' : s = false := by rw [hs (by omega)]; simp; omega
    rw [c1, zv]
    rw [hs']
    simp only [signed, Bool.false_eq_true, if_false]
    constructor
    · intro q
      have q' := Int.compare_eq_lt.mp (Option.some.inj q)
      refine Int.lt_of_not_ge fun hge => ?_
      have p := own_ge (s := false) (A := i.natAbs) hB (by omega)
      generalize own_P = P at p q'
      omega
    · intro q
      have p := own_lt (s := false) (A := i.natAbs) hB (by omega) hB2
      generalize own_P = P at p ⊢
      generalize zmag b64 (roundRatio b64 false i.natAbs j.natAbs 0) = z at p ⊢
      have q' : (z : Int) < ((2 ^ 53 * P : Nat) : Int) := by omega
      rw [Int.compare_eq_lt.mpr q']
end Jvm.Pilot.@@N@@.Fl
namespace Jvm.RoadKit
open Sem ClassFile Op Lib Jvm.Stand Jvm.Free Jvm.LawKit
section New
variable {p : Program} {l : Launch} {e : Env} {R : Room} {s : State} {m : MethodId} {args : Array Value} {below : List Frame} {meth : Method} {c : Code} {T : State} {locs : List Loc} {cells slots : Nat}
theorem retI (X : Stand p l e R s m args below meth c T locs cells slots) (hx : p.tables.exec = Jvm.exec) {pc : Nat} {Ls : Array Slot} {z : Int32} {rest : List Value} (hret : meth.sig.returnType = some .int) (hd : decode c.code pc = .ok (.ireturn, 1)) {fs : List Frame}
    (hl : ∀ (f : JFrame) (acts : List Action), f.method = m → f.locked = none → f.entered = [] → (doReturn e (T.setTop f) acts (some (.int z))).1 = T.setFrames fs) : Steps p.tables e below (T.setTop (mkF m pc Ls (.int z :: rest))) (T.setFrames fs) := by
  have hm' : T.vm.method? m = some meth := X.method'
  have hn : narrow .int (.int z) = .int z := rfl
  show Steps p.tables e below (T.setTop { method := m, pc := pc, locals := Ls, stack := _ :: rest, locked := none }) _
  jvm_step X.here [X.here.top, hx, hd, hm', hret, hn]
  first | (intro acts; rw [hl _ acts rfl rfl rfl]) | rw [hl _ _ rfl rfl rfl]
  exact Steps.refl _
end New
end Jvm.RoadKit
namespace Jvm.Pilot.@@N@@
open Jvm Jvm.ClassFile Sem Op Lib Jvm.Free Jvm.Stand Jvm.LawKit Jvm.RoadKit Bundle Jvm.Pilot.@@N@@.Jvm.D
theorem d1_0 : decode prog_78_method_2_code 0 = .ok (.dload_n 0, 1) := by decide +kernel
theorem d1_1 : decode prog_78_method_2_code 1 = .ok (.dconst 0, 1) := by decide +kernel
theorem d1_2 : decode prog_78_method_2_code 2 = .ok (.dcmp .l, 1) := by decide +kernel
theorem d1_3 : decode prog_78_method_2_code 3 = .ok (.ifCond .le 13, 3) := by decide +kernel
theorem d1_6 : decode prog_78_method_2_code 6 = .ok (.dload_n 0, 1) := by decide +kernel
theorem d1_7 : decode prog_78_method_2_code 7 = .ok (.dconst 1, 1) := by decide +kernel
theorem d1_8 : decode prog_78_method_2_code 8 = .ok (.dcmp .g, 1) := by decide +kernel
theorem d1_9 : decode prog_78_method_2_code 9 = .ok (.ifCond .ge 7, 3) := by decide +kernel
theorem d1_12 : decode prog_78_method_2_code 12 = .ok (.iconst 1, 1) := by decide +kernel
theorem d1_13 : decode prog_78_method_2_code 13 = .ok (.goto 4, 3) := by decide +kernel
theorem d1_16 : decode prog_78_method_2_code 16 = .ok (.iconst 0, 1) := by decide +kernel
theorem d1_17 : decode prog_78_method_2_code 17 = .ok (.ireturn, 1) := by decide +kernel
theorem pn_1 : plainName "com/example/novation/novation/risk/EwmaVolatility" = true := by first | (simp [plainName, overriddenIn]; done) | decide +kernel
theorem pd_0 : parseMethodDescriptor "(D)Z" = some ⟨[.double], some .boolean⟩ := by decide +kernel
theorem ef_1 (m : MethodId) (x0 : UInt64) : entryFrame m #[(.double x0)] 2 = mkF m 0 #[.val (.double x0), .second] [] := by first | (simp [entryFrame, mkF, argsToLocals, Value.category]; done) | rfl
def f1 (d0 : UInt64) : Int32 := if (0 : Int32) < (cmpValue (FP.dcmp d0 FP.dconst0) .l) then (if (cmpValue (FP.dcmp d0 FP.dconst1) .g) < (0 : Int32) then (1 : Int32) else (0 : Int32)) else (0 : Int32)
def Q1 (d0 : UInt64) (h0 : Heap) (n0 : Nat) (v : Option Value) (h : Heap) (L : List Loc) : Prop := v = some (.int (f1 d0)) ∧ Fr n0 L ∧ h = h0
set_option maxRecDepth 65536 in
set_option maxHeartbeats 40000000 in
theorem rm1 (l : Launch) (Z : State) (aZ : Array Value) (hw : ∀ d ∈ tables_1, d.before aZ Z = true) (ws : List Jvm.Cond) (d0 : UInt64)  (h0 : Heap) (n0 : Nat) (Z0 : n0 ≤ h0.size)  :
    MetFree l (⟨"com/example/novation/novation/risk/EwmaVolatility", "isDecay", "(D)Z"⟩ : MethodName) (head1 (Jvm.Cond.code (⟨"com/example/novation/novation/risk/EwmaVolatility", "isDecay", "(D)Z"⟩ : MethodName) prog_78_method_2_code 2 (some .boolean) :: ws) ({ frames := 0, cells := 0, slots := 0, locals := 0 } : Room)) (fun a U => a = #[(.double d0)] ∧ Z.Warmed39 U.vm ∧ U.heap = h0) (fun _ _ _ _ _ => True) (fun _ U oc U' => ∃ v L, oc = .returned v ∧ Q1 d0 h0 n0 v U'.heap L ∧ FrameEnd U oc U' L ({ frames := 0, cells := 0, slots := 0, locals := 0 } : Room).cells ({ frames := 0, cells := 0, slots := 0, locals := 0 } : Room).slots) := by
  refine MetFree.of_bodySF (plainFor_of_name pn_1) hisR ?_
  intro p e s m args below meth c s₁ Bd hml0 hP hK
  obtain ⟨rfl, hZ, hh⟩ := hP
  have hx := Bd.exec
  have hby := Bd.bytes
  have hml : c.maxLocals = 2 := hml0
  have hown : s.vm.findClass "com/example/novation/novation/risk/EwmaVolatility" = some m.cls := findClass_of_methodNamed Bd.named
  have hnm := (name_of_methodNamed Bd.named Bd.method).1
  have X0 : Stand p l e ({ frames := 0, cells := 0, slots := 0, locals := 0 } : Room) s m #[(.double d0)] below meth c s₁ [] 0 0 := Stand.of_body Bd
  have e0 : s₁.heap = h0 := by rw [← hh, Bd.state]; rfl
  have N0 := Fr.nil n0
  have pre0 : ∀ t, Steps p.tables e below (s₁.setTop (mkF m 0 #[.val (.double d0), .second] [])) t → Steps p.tables e below (s₁.setTop (entryFrame m #[(.double d0)] 2)) t := fun t kt => castTop (ef_1 m d0) kt
  obtain ⟨fs, hr, hrun, hended, hW, hsame⟩ := X0.leave (v := some (.int (f1 d0))) (fun h => by rw [Bd.returns] at h; cases h)
  refine ⟨_, _, pre0 _ ?_, hrun, hended, _, _, rfl, ?_, ⟨_, rfl⟩, hW, hsame.mono (by decide) (by decide)⟩
  · show Steps p.tables e below (s₁.setTop (mkF m 0 #[.val (.double d0), .second] [])) _
    refine XS.dloadN X0.here hx rfl (hb hby d1_0) rfl ?_
    show Steps p.tables e below (s₁.setTop (mkF m 1 #[.val (.double d0), .second] [(.double d0)])) _
    refine XS.dconst0 X0.here hx rfl (hb hby d1_1) (v := FP.dconst0) rfl ?_
    show Steps p.tables e below (s₁.setTop (mkF m 2 #[.val (.double d0), .second] [(.double FP.dconst0), (.double d0)])) _
    refine XS.dcmpS X0.here hx rfl (hb hby d1_2) rfl (v := (cmpValue (FP.dcmp d0 FP.dconst0) .l)) rfl ?_
    show Steps p.tables e below (s₁.setTop (mkF m 3 #[.val (.double d0), .second] [(.int (cmpValue (FP.dcmp d0 FP.dconst0) .l))])) _
    by_cases c3 : (0 : Int32) < (cmpValue (FP.dcmp d0 FP.dconst0) .l)
    · refine XS.ifNo X0.here hx rfl (hb hby d1_3) rfl ((if0 _ _).trans (tlt c3).2.2.2) ?_
      show Steps p.tables e below (s₁.setTop (mkF m 6 #[.val (.double d0), .second] [])) _
      refine XS.dloadN X0.here hx rfl (hb hby d1_6) rfl ?_
      show Steps p.tables e below (s₁.setTop (mkF m 7 #[.val (.double d0), .second] [(.double d0)])) _
      refine XS.dconst1 X0.here hx rfl (hb hby d1_7) (v := FP.dconst1) rfl ?_
      show Steps p.tables e below (s₁.setTop (mkF m 8 #[.val (.double d0), .second] [(.double FP.dconst1), (.double d0)])) _
      refine XS.dcmpS X0.here hx rfl (hb hby d1_8) rfl (v := (cmpValue (FP.dcmp d0 FP.dconst1) .g)) rfl ?_
      show Steps p.tables e below (s₁.setTop (mkF m 9 #[.val (.double d0), .second] [(.int (cmpValue (FP.dcmp d0 FP.dconst1) .g))])) _
      by_cases c4 : (cmpValue (FP.dcmp d0 FP.dconst1) .g) < (0 : Int32)
      · refine XS.ifNo X0.here hx rfl (hb hby d1_9) rfl ((if0 _ _).trans (tlt c4).2.1) ?_
        show Steps p.tables e below (s₁.setTop (mkF m 12 #[.val (.double d0), .second] [])) _
        refine XS.iconst X0.here hx rfl (hb hby d1_12) ?_
        show Steps p.tables e below (s₁.setTop (mkF m 13 #[.val (.double d0), .second] [(.int (1 : Int32))])) _
        refine XS.goto X0.here hx rfl (pc0 := 13) (pc' := 17) rfl (hb hby d1_13) (by decide) (by decide) ?_
        show Steps p.tables e below (s₁.setTop (mkF m 17 #[.val (.double d0), .second] [(.int (1 : Int32))])) _
        have hv : f1 d0 = (1 : Int32) := by unfold f1; rw [if_pos c3, if_pos c4]
        rw [hv] at hr
        exact retN X0 hx (t := .boolean) Bd.returns (by simp) (hb hby d1_17) hr
      · refine XS.ifYes X0.here hx rfl (pc0 := 9) (pc' := 16) rfl (hb hby d1_9) rfl ((if0 _ _).trans (flt c4).2.1) (by decide) (by decide) ?_
        show Steps p.tables e below (s₁.setTop (mkF m 16 #[.val (.double d0), .second] [])) _
        refine XS.iconst X0.here hx rfl (hb hby d1_16) ?_
        show Steps p.tables e below (s₁.setTop (mkF m 17 #[.val (.double d0), .second] [(.int (0 : Int32))])) _
        have hv : f1 d0 = (0 : Int32) := by unfold f1; rw [if_pos c3, if_neg c4]
        rw [hv] at hr
        exact retN X0 hx (t := .boolean) Bd.returns (by simp) (hb hby d1_17) hr
    · refine XS.ifYes X0.here hx rfl (pc0 := 3) (pc' := 16) rfl (hb hby d1_3) rfl ((if0 _ _).trans (flt c3).2.2.2) (by decide) (by decide) ?_
      show Steps p.tables e below (s₁.setTop (mkF m 16 #[.val (.double d0), .second] [])) _
      refine XS.iconst X0.here hx rfl (hb hby d1_16) ?_
      show Steps p.tables e below (s₁.setTop (mkF m 17 #[.val (.double d0), .second] [(.int (0 : Int32))])) _
      have hv : f1 d0 = (0 : Int32) := by unfold f1; rw [if_neg c3]
      rw [hv] at hr
      exact retN X0 hx (t := .boolean) Bd.returns (by simp) (hb hby d1_17) hr
  · show Q1 d0 h0 n0 _ s₁.heap _
    rw [e0]
    exact ⟨rfl, N0, rfl⟩
theorem own_nn (n den : Int32) (h1 : 0 < den.toInt) : Jvm.Free.Fl.NoNaN64 (FP.ddiv (FP.i2d n) (FP.i2d den)) := by
  have l := den.toInt_lt
  exact Jvm.Free.Fl.val64_no.mpr (Fl.own_div (FP.Core.i2d_int n) (FP.Core.i2d_int den) h1 (by omega)).1
theorem own_law (n den : Int32) (h1 : 0 < den.toInt) : f1 (FP.ddiv (FP.i2d n) (FP.i2d den)) = if (0 : Int32) < n then (if n < den then (1 : Int32) else (0 : Int32)) else (0 : Int32) := by
  have l := den.toInt_lt
  obtain ⟨-, a, b, c, d⟩ := Fl.own_div (FP.Core.i2d_int n) (FP.Core.i2d_int den) h1 (by omega)
  have k0 : (0 : Int32).toInt = 0 := by decide
  have A : (0 : Int32) < cmpValue (FP.dcmp (FP.ddiv (FP.i2d n) (FP.i2d den)) FP.dconst0) .l ↔ (0 : Int32) < n := by
    rw [Int32.lt_iff_toInt_lt (x := 0) (y := n), k0, ← a]
    show (0 : Int32) < cmpValue (FP.Core.dcmp (FP.Core.ddiv (FP.Core.i2d n) (FP.Core.i2d den)) FP.Core.dconst0) .l ↔ _
    rcases q : FP.Core.dcmp (FP.Core.ddiv (FP.Core.i2d n) (FP.Core.i2d den)) FP.Core.dconst0 with _ | (_ | _ | _)
    · exact absurd q d
    · simp only [reduceCtorEq, iff_false, Option.some.injEq]; decide
    · simp only [reduceCtorEq, iff_false, Option.some.injEq]; decide
    · simp only [iff_true]; decide
  unfold f1
  by_cases hn : (0 : Int32) < n
  · have hn' : 0 < n.toInt := by rw [Int32.lt_iff_toInt_lt, k0] at hn; exact hn
    rw [if_pos (A.mpr hn), if_pos hn]
    have B : cmpValue (FP.dcmp (FP.ddiv (FP.i2d n) (FP.i2d den)) FP.dconst1) .g < (0 : Int32) ↔ n < den := by
      rw [Int32.lt_iff_toInt_lt (x := n) (y := den), ← b hn']
      show cmpValue (FP.Core.dcmp (FP.Core.ddiv (FP.Core.i2d n) (FP.Core.i2d den)) FP.Core.dconst1) .g < (0 : Int32) ↔ _
      rcases q : FP.Core.dcmp (FP.Core.ddiv (FP.Core.i2d n) (FP.Core.i2d den)) FP.Core.dconst1 with _ | (_ | _ | _)
      · exact absurd q (c hn')
      · simp only [iff_true]; decide
      · simp only [reduceCtorEq, iff_false, Option.some.injEq]; decide
      · simp only [reduceCtorEq, iff_false, Option.some.injEq]; decide
    by_cases hd : n < den
    · rw [if_pos (B.mpr hd), if_pos hd]
    · rw [if_neg (fun q => hd (B.mp q)), if_neg hd]
  · rw [if_neg (fun q => hn (A.mp q)), if_neg hn]
theorem own_den (d : Int32) : 0 < ((d &&& (1073741823 : Int32)) + (1 : Int32)).toInt := by
  have e : (d &&& (1073741823 : Int32)).toInt = d.toInt % 2 ^ 30 := Jvm.Kit.i32_mask d 1073741823 (k := 30) (by decide) (by decide)
  have k1 : (1 : Int32).toInt = 1 := by decide
  rw [Jvm.Kit.i32_add (by omega) (by omega), e, k1]; omega
theorem pn_0 : plainName "com/example/novation/novation/risk/EwmaVolatilityIsDecayPinLaw" = true := by first | (simp [plainName, overriddenIn]; done) | decide +kernel
theorem ef_0 (m : MethodId) (x0 : Int32) (x1 : Int32) : entryFrame m #[(.int x0), (.int x1)] maxLocals = mkF m 0 #[.val (.int x0), .val (.int x1), .unset, .unset, .unset, .unset] [] := by first | (simp [entryFrame, mkF, argsToLocals, Value.category, maxLocals]; done) | rfl
def Q0 (nv : Int32) (dv : Int32) (h0 : Heap) (n0 : Nat) (v : Option Value) (h : Heap) (L : List Loc) : Prop := v = some (.int (1 : Int32)) ∧ Fr n0 L
set_option maxRecDepth 65536 in
set_option maxHeartbeats 40000000 in
theorem rm0 (l : Launch) (Z : State) (aZ : Array Value) (hw : ∀ d ∈ tables_1, d.before aZ Z = true) (ws : List Jvm.Cond) (nv : Int32) (dv : Int32)  (h0 : Heap) (n0 : Nat) (Z0 : n0 ≤ h0.size)  :
    MetFree l x (head1 (Jvm.Cond.code x code maxLocals ret :: ws) room_1) (fun a U => a = #[(.int nv), (.int dv)] ∧ Z.Warmed39 U.vm ∧ U.heap = h0) (fun _ _ _ _ _ => True) (fun _ U oc U' => ∃ v L, oc = .returned v ∧ Q0 nv dv h0 n0 v U'.heap L ∧ FrameEnd U oc U' L room_1.cells room_1.slots) := by
  refine MetFree.of_bodySF (plainFor_of_name pn_0) hisR ?_
  intro p e s m args below meth c s₁ Bd hml0 hP hK
  obtain ⟨rfl, hZ, hh⟩ := hP
  have hx := Bd.exec
  have hby := Bd.bytes
  have hml : c.maxLocals = 6 := hml0
  have hown : s.vm.findClass "com/example/novation/novation/risk/EwmaVolatilityIsDecayPinLaw" = some m.cls := findClass_of_methodNamed Bd.named
  have hnm := (name_of_methodNamed Bd.named Bd.method).1
  have X0 : Stand p l e room_1 s m #[(.int nv), (.int dv)] below meth c s₁ [] 0 0 := Stand.of_body Bd
  have e0 : s₁.heap = h0 := by rw [← hh, Bd.state]; rfl
  have N0 := Fr.nil n0
  have pre0 : ∀ t, Steps p.tables e below (s₁.setTop (mkF m 0 #[.val (.int nv), .val (.int dv), .unset, .unset, .unset, .unset] [])) t → Steps p.tables e below (s₁.setTop (entryFrame m #[(.int nv), (.int dv)] maxLocals)) t := fun t kt => castTop (ef_0 m nv dv) kt
  have pre5 : ∀ t, Steps p.tables e below (s₁.setTop (mkF m 7 #[.val (.int nv), .val (.int dv), .val (.int ((dv &&& (1073741823 : Int32)) + (1 : Int32))), .unset, .unset, .unset] [])) t → Steps p.tables e below (s₁.setTop (entryFrame m #[(.int nv), (.int dv)] maxLocals)) t := fun t kt => by
    refine pre0 _ ?_
    show Steps p.tables e below (s₁.setTop (mkF m 0 #[.val (.int nv), .val (.int dv), .unset, .unset, .unset, .unset] [])) _
    refine XS.iloadN X0.here hx rfl (hb hby at_0) rfl ?_
    show Steps p.tables e below (s₁.setTop (mkF m 1 #[.val (.int nv), .val (.int dv), .unset, .unset, .unset, .unset] [(.int dv)])) _
    refine X0.ldcInt hx hown (mvT hZ (hw _ (List.mem_of_getElem? (i := 0) rfl))) (g := (mkF m 1 #[.val (.int nv), .val (.int dv), .unset, .unset, .unset, .unset] [(.int dv)])) rfl (hb hby at_1) _ ?_
    show Steps p.tables e below (s₁.setTop (mkF m 3 #[.val (.int nv), .val (.int dv), .unset, .unset, .unset, .unset] [(.int (1073741823 : Int32)), (.int dv)])) _
    refine XS.iand X0.here hx rfl (hb hby at_3) rfl ?_
    show Steps p.tables e below (s₁.setTop (mkF m 4 #[.val (.int nv), .val (.int dv), .unset, .unset, .unset, .unset] [(.int (dv &&& (1073741823 : Int32)))])) _
    refine XS.iconst X0.here hx rfl (hb hby at_4) ?_
    show Steps p.tables e below (s₁.setTop (mkF m 5 #[.val (.int nv), .val (.int dv), .unset, .unset, .unset, .unset] [(.int (1 : Int32)), (.int (dv &&& (1073741823 : Int32)))])) _
    refine XS.iadd X0.here hx rfl (hb hby at_5) rfl ?_
    show Steps p.tables e below (s₁.setTop (mkF m 6 #[.val (.int nv), .val (.int dv), .unset, .unset, .unset, .unset] [(.int ((dv &&& (1073741823 : Int32)) + (1 : Int32)))])) _
    refine XS.istoreN X0.here hx rfl (hb hby at_6) rfl (l' := #[.val (.int nv), .val (.int dv), .val (.int ((dv &&& (1073741823 : Int32)) + (1 : Int32))), .unset, .unset, .unset]) rfl ?_
    show Steps p.tables e below (s₁.setTop (mkF m 7 #[.val (.int nv), .val (.int dv), .val (.int ((dv &&& (1073741823 : Int32)) + (1 : Int32))), .unset, .unset, .unset] [])) _
    exact kt
  obtain ⟨den, e_den⟩ : ∃ z : Int32, z = ((dv &&& (1073741823 : Int32)) + (1 : Int32)) := ⟨_, rfl⟩
  have pre6 : ∀ t, Steps p.tables e below (s₁.setTop (mkF m 7 #[.val (.int nv), .val (.int dv), .val (.int den), .unset, .unset, .unset] [])) t → Steps p.tables e below (s₁.setTop (entryFrame m #[(.int nv), (.int dv)] maxLocals)) t := by rw [e_den]; exact pre5
  have hden : 0 < den.toInt := by rw [e_den]; exact own_den dv
  have hnn := own_nn nv den hden
  have hl := own_law nv den hden
  have pre7 : ∀ t, Steps p.tables e below (s₁.setTop (mkF m 13 #[.val (.int nv), .val (.int dv), .val (.int den), .val (.double (FP.ddiv (FP.i2d nv) (FP.i2d den))), .second, .unset] [])) t → Steps p.tables e below (s₁.setTop (entryFrame m #[(.int nv), (.int dv)] maxLocals)) t := fun t kt => by
    refine pre6 _ ?_
    show Steps p.tables e below (s₁.setTop (mkF m 7 #[.val (.int nv), .val (.int dv), .val (.int den), .unset, .unset, .unset] [])) _
    refine XS.iloadN X0.here hx rfl (hb hby at_7) rfl ?_
    show Steps p.tables e below (s₁.setTop (mkF m 8 #[.val (.int nv), .val (.int dv), .val (.int den), .unset, .unset, .unset] [(.int nv)])) _
    refine XS.i2dS X0.here hx rfl (hb hby at_8) rfl (v := FP.i2d nv) rfl ?_
    show Steps p.tables e below (s₁.setTop (mkF m 9 #[.val (.int nv), .val (.int dv), .val (.int den), .unset, .unset, .unset] [(.double (FP.i2d nv))])) _
    refine XS.iloadN X0.here hx rfl (hb hby at_9) rfl ?_
    show Steps p.tables e below (s₁.setTop (mkF m 10 #[.val (.int nv), .val (.int dv), .val (.int den), .unset, .unset, .unset] [(.int den), (.double (FP.i2d nv))])) _
    refine XS.i2dS X0.here hx rfl (hb hby at_10) rfl (v := FP.i2d den) rfl ?_
    show Steps p.tables e below (s₁.setTop (mkF m 11 #[.val (.int nv), .val (.int dv), .val (.int den), .unset, .unset, .unset] [(.double (FP.i2d den)), (.double (FP.i2d nv))])) _
    refine XS.ddivS X0.here hx rfl (hb hby at_11) rfl hnn (v := (FP.ddiv (FP.i2d nv) (FP.i2d den))) rfl ?_
    show Steps p.tables e below (s₁.setTop (mkF m 12 #[.val (.int nv), .val (.int dv), .val (.int den), .unset, .unset, .unset] [(.double (FP.ddiv (FP.i2d nv) (FP.i2d den)))])) _
    refine XS.dstoreN X0.here hx rfl (hb hby at_12) rfl (l' := #[.val (.int nv), .val (.int dv), .val (.int den), .val (.double (FP.ddiv (FP.i2d nv) (FP.i2d den))), .second, .unset]) rfl ?_
    show Steps p.tables e below (s₁.setTop (mkF m 13 #[.val (.int nv), .val (.int dv), .val (.int den), .val (.double (FP.ddiv (FP.i2d nv) (FP.i2d den))), .second, .unset] [])) _
    exact kt
  have pre8 : ∀ t, Steps p.tables e below (s₁.setTop (mkF m 14 #[.val (.int nv), .val (.int dv), .val (.int den), .val (.double (FP.ddiv (FP.i2d nv) (FP.i2d den))), .second, .unset] [(.int nv)])) t → Steps p.tables e below (s₁.setTop (entryFrame m #[(.int nv), (.int dv)] maxLocals)) t := fun t kt => by
    refine pre7 _ ?_
    show Steps p.tables e below (s₁.setTop (mkF m 13 #[.val (.int nv), .val (.int dv), .val (.int den), .val (.double (FP.ddiv (FP.i2d nv) (FP.i2d den))), .second, .unset] [])) _
    refine XS.iloadN X0.here hx rfl (hb hby at_13) rfl ?_
    show Steps p.tables e below (s₁.setTop (mkF m 14 #[.val (.int nv), .val (.int dv), .val (.int den), .val (.double (FP.ddiv (FP.i2d nv) (FP.i2d den))), .second, .unset] [(.int nv)])) _
    exact kt
  by_cases c9 : (0 : Int32) < nv
  · have pre10 : ∀ t, Steps p.tables e below (s₁.setTop (mkF m 17 #[.val (.int nv), .val (.int dv), .val (.int den), .val (.double (FP.ddiv (FP.i2d nv) (FP.i2d den))), .second, .unset] [])) t → Steps p.tables e below (s₁.setTop (entryFrame m #[(.int nv), (.int dv)] maxLocals)) t := fun t kt => by
      refine pre8 _ ?_
      show Steps p.tables e below (s₁.setTop (mkF m 14 #[.val (.int nv), .val (.int dv), .val (.int den), .val (.double (FP.ddiv (FP.i2d nv) (FP.i2d den))), .second, .unset] [(.int nv)])) _
      refine XS.ifNo X0.here hx rfl (hb hby at_14) rfl ((if0 _ _).trans (tlt c9).2.2.2) ?_
      show Steps p.tables e below (s₁.setTop (mkF m 17 #[.val (.int nv), .val (.int dv), .val (.int den), .val (.double (FP.ddiv (FP.i2d nv) (FP.i2d den))), .second, .unset] [])) _
      exact kt
    have pre11 : ∀ t, Steps p.tables e below (s₁.setTop (mkF m 19 #[.val (.int nv), .val (.int dv), .val (.int den), .val (.double (FP.ddiv (FP.i2d nv) (FP.i2d den))), .second, .unset] [(.int den), (.int nv)])) t → Steps p.tables e below (s₁.setTop (entryFrame m #[(.int nv), (.int dv)] maxLocals)) t := fun t kt => by
      refine pre10 _ ?_
      show Steps p.tables e below (s₁.setTop (mkF m 17 #[.val (.int nv), .val (.int dv), .val (.int den), .val (.double (FP.ddiv (FP.i2d nv) (FP.i2d den))), .second, .unset] [])) _
      refine XS.iloadN X0.here hx rfl (hb hby at_17) rfl ?_
      show Steps p.tables e below (s₁.setTop (mkF m 18 #[.val (.int nv), .val (.int dv), .val (.int den), .val (.double (FP.ddiv (FP.i2d nv) (FP.i2d den))), .second, .unset] [(.int nv)])) _
      refine XS.iloadN X0.here hx rfl (hb hby at_18) rfl ?_
      show Steps p.tables e below (s₁.setTop (mkF m 19 #[.val (.int nv), .val (.int dv), .val (.int den), .val (.double (FP.ddiv (FP.i2d nv) (FP.i2d den))), .second, .unset] [(.int den), (.int nv)])) _
      exact kt
    by_cases c12 : nv < den
    · have pre13 : ∀ t, Steps p.tables e below (s₁.setTop (mkF m 22 #[.val (.int nv), .val (.int dv), .val (.int den), .val (.double (FP.ddiv (FP.i2d nv) (FP.i2d den))), .second, .unset] [])) t → Steps p.tables e below (s₁.setTop (entryFrame m #[(.int nv), (.int dv)] maxLocals)) t := fun t kt => by
        refine pre11 _ ?_
        show Steps p.tables e below (s₁.setTop (mkF m 19 #[.val (.int nv), .val (.int dv), .val (.int den), .val (.double (FP.ddiv (FP.i2d nv) (FP.i2d den))), .second, .unset] [(.int den), (.int nv)])) _
        refine XS.icmpNo X0.here hx rfl (hb hby at_19) rfl (tlt c12).2.1 ?_
        show Steps p.tables e below (s₁.setTop (mkF m 22 #[.val (.int nv), .val (.int dv), .val (.int den), .val (.double (FP.ddiv (FP.i2d nv) (FP.i2d den))), .second, .unset] [])) _
        exact kt
      have pre14 : ∀ t, Steps p.tables e below (s₁.setTop (mkF m 30 #[.val (.int nv), .val (.int dv), .val (.int den), .val (.double (FP.ddiv (FP.i2d nv) (FP.i2d den))), .second, .val (.int (1 : Int32))] [(.double (FP.ddiv (FP.i2d nv) (FP.i2d den)))])) t → Steps p.tables e below (s₁.setTop (entryFrame m #[(.int nv), (.int dv)] maxLocals)) t := fun t kt => by
        refine pre13 _ ?_
        show Steps p.tables e below (s₁.setTop (mkF m 22 #[.val (.int nv), .val (.int dv), .val (.int den), .val (.double (FP.ddiv (FP.i2d nv) (FP.i2d den))), .second, .unset] [])) _
        refine XS.iconst X0.here hx rfl (hb hby at_22) ?_
        show Steps p.tables e below (s₁.setTop (mkF m 23 #[.val (.int nv), .val (.int dv), .val (.int den), .val (.double (FP.ddiv (FP.i2d nv) (FP.i2d den))), .second, .unset] [(.int (1 : Int32))])) _
        refine XS.goto X0.here hx rfl (pc0 := 23) (pc' := 27) rfl (hb hby at_23) (by decide) (by decide) ?_
        show Steps p.tables e below (s₁.setTop (mkF m 27 #[.val (.int nv), .val (.int dv), .val (.int den), .val (.double (FP.ddiv (FP.i2d nv) (FP.i2d den))), .second, .unset] [(.int (1 : Int32))])) _
        refine XS.istore X0.here hx rfl (hb hby at_27) rfl (l' := #[.val (.int nv), .val (.int dv), .val (.int den), .val (.double (FP.ddiv (FP.i2d nv) (FP.i2d den))), .second, .val (.int (1 : Int32))]) rfl ?_
        show Steps p.tables e below (s₁.setTop (mkF m 29 #[.val (.int nv), .val (.int dv), .val (.int den), .val (.double (FP.ddiv (FP.i2d nv) (FP.i2d den))), .second, .val (.int (1 : Int32))] [])) _
        refine XS.dloadN X0.here hx rfl (hb hby at_29) rfl ?_
        show Steps p.tables e below (s₁.setTop (mkF m 30 #[.val (.int nv), .val (.int dv), .val (.int den), .val (.double (FP.ddiv (FP.i2d nv) (FP.i2d den))), .second, .val (.int (1 : Int32))] [(.double (FP.ddiv (FP.i2d nv) (FP.i2d den)))])) _
        exact kt
      obtain ⟨v15, _, ⟨T15, L15, k15, n15⟩, -, X15, ⟨Lc15, hQ15, l15, y15, z15⟩, st15⟩ := Jvm.LawKit.callS X0 hx (y := (⟨"com/example/novation/novation/risk/EwmaVolatility", "isDecay", "(D)Z"⟩ : MethodName)) hown (mvT hZ (hw _ (List.mem_of_getElem? (i := 1) rfl))) (mvT hZ (hw _ (List.mem_of_getElem? (i := 2) rfl))) (mvT hZ (hw _ (List.mem_of_getElem? (i := 3) rfl))) (mvT hZ (hw _ (List.mem_of_getElem? (i := 4) rfl))) (by decide) (backOf (W := 0) (rm1 l Z aZ hw [] (FP.ddiv (FP.i2d nv) (FP.i2d den))  h0 n0 Z0 ) hZ (hw _ (List.mem_of_getElem? (i := 4) rfl)) (hw _ (List.mem_of_getElem? (i := 3) rfl)) (by decide) (by decide)) (g := (mkF m 30 #[.val (.int nv), .val (.int dv), .val (.int den), .val (.double (FP.ddiv (FP.i2d nv) (FP.i2d den))), .second, .val (.int (1 : Int32))] [(.double (FP.ddiv (FP.i2d nv) (FP.i2d den)))])) rfl (by rw [hml]; rfl) (argsL := [(.double (FP.ddiv (FP.i2d nv) (FP.i2d den)))]) (rest := []) (lenOf pd_0 rfl) rfl (by show 2 * 0 + _ ≤ _; exact Nat.le_of_eq rfl) (hb hby at_30) (fun _ _ => ⟨rfl, e0, (by decide : 0 + 0 ≤ _), (by decide : 0 + 0 ≤ _)⟩)
      dsimp only [Pt.U, Pt.locs, Pt.cells, Pt.slots] at X15 l15 y15 z15 st15 hQ15
      rw [l15, y15, z15] at X15
      clear l15 y15 z15
      obtain ⟨vq15, N15q, e15⟩ := hQ15
      rw [vq15] at st15
      have N15 := Fr.app N0 N15q
      have pre15 : ∀ t, Steps p.tables e below (T15.setTop (mkF m 33 #[.val (.int nv), .val (.int dv), .val (.int den), .val (.double (FP.ddiv (FP.i2d nv) (FP.i2d den))), .second, .val (.int (1 : Int32))] [(.int (f1 (FP.ddiv (FP.i2d nv) (FP.i2d den))))])) t → Steps p.tables e below (s₁.setTop (entryFrame m #[(.int nv), (.int dv)] maxLocals)) t := fun t kt => pre14 _ (st15 t kt)
      have pre16 : ∀ t, Steps p.tables e below (T15.setTop (mkF m 35 #[.val (.int nv), .val (.int dv), .val (.int den), .val (.double (FP.ddiv (FP.i2d nv) (FP.i2d den))), .second, .val (.int (1 : Int32))] [(.int (1 : Int32)), (.int (f1 (FP.ddiv (FP.i2d nv) (FP.i2d den))))])) t → Steps p.tables e below (s₁.setTop (entryFrame m #[(.int nv), (.int dv)] maxLocals)) t := fun t kt => by
        refine pre15 _ ?_
        show Steps p.tables e below (T15.setTop (mkF m 33 #[.val (.int nv), .val (.int dv), .val (.int den), .val (.double (FP.ddiv (FP.i2d nv) (FP.i2d den))), .second, .val (.int (1 : Int32))] [(.int (f1 (FP.ddiv (FP.i2d nv) (FP.i2d den))))])) _
        refine XS.iload X15.here hx rfl (hb hby at_33) rfl ?_
        show Steps p.tables e below (T15.setTop (mkF m 35 #[.val (.int nv), .val (.int dv), .val (.int den), .val (.double (FP.ddiv (FP.i2d nv) (FP.i2d den))), .second, .val (.int (1 : Int32))] [(.int (1 : Int32)), (.int (f1 (FP.ddiv (FP.i2d nv) (FP.i2d den))))])) _
        exact kt
      obtain ⟨fs, hr, hrun, hended, hW, hsame⟩ := X15.leave (v := some (.int (1 : Int32))) (fun h => by rw [Bd.returns] at h; cases h)
      refine ⟨_, _, pre16 _ ?_, hrun, hended, _, _, rfl, ?_, ⟨_, rfl⟩, hW, hsame.mono (by decide) (by decide)⟩
      · show Steps p.tables e below (T15.setTop (mkF m 35 #[.val (.int nv), .val (.int dv), .val (.int den), .val (.double (FP.ddiv (FP.i2d nv) (FP.i2d den))), .second, .val (.int (1 : Int32))] [(.int (1 : Int32)), (.int (f1 (FP.ddiv (FP.i2d nv) (FP.i2d den))))])) _
        refine XS.icmpNo X15.here hx rfl (hb hby at_35) rfl (teq (by rw [hl, if_pos c9, if_pos c12])).2 ?_
        show Steps p.tables e below (T15.setTop (mkF m 38 #[.val (.int nv), .val (.int dv), .val (.int den), .val (.double (FP.ddiv (FP.i2d nv) (FP.i2d den))), .second, .val (.int (1 : Int32))] [])) _
        refine XS.iconst X15.here hx rfl (hb hby at_38) ?_
        show Steps p.tables e below (T15.setTop (mkF m 39 #[.val (.int nv), .val (.int dv), .val (.int den), .val (.double (FP.ddiv (FP.i2d nv) (FP.i2d den))), .second, .val (.int (1 : Int32))] [(.int (1 : Int32))])) _
        refine XS.goto X15.here hx rfl (pc0 := 39) (pc' := 43) rfl (hb hby at_39) (by decide) (by decide) ?_
        show Steps p.tables e below (T15.setTop (mkF m 43 #[.val (.int nv), .val (.int dv), .val (.int den), .val (.double (FP.ddiv (FP.i2d nv) (FP.i2d den))), .second, .val (.int (1 : Int32))] [(.int (1 : Int32))])) _
        exact retN X15 hx (t := .boolean) Bd.returns (by simp) (hb hby at_43) hr
      · show Q0 nv dv h0 n0 _ T15.heap _
        exact ⟨rfl, N15⟩
    · have pre17 : ∀ t, Steps p.tables e below (s₁.setTop (mkF m 26 #[.val (.int nv), .val (.int dv), .val (.int den), .val (.double (FP.ddiv (FP.i2d nv) (FP.i2d den))), .second, .unset] [])) t → Steps p.tables e below (s₁.setTop (entryFrame m #[(.int nv), (.int dv)] maxLocals)) t := fun t kt => by
        refine pre11 _ ?_
        show Steps p.tables e below (s₁.setTop (mkF m 19 #[.val (.int nv), .val (.int dv), .val (.int den), .val (.double (FP.ddiv (FP.i2d nv) (FP.i2d den))), .second, .unset] [(.int den), (.int nv)])) _
        refine XS.icmpYes X0.here hx rfl (pc0 := 19) (pc' := 26) rfl (hb hby at_19) rfl (flt c12).2.1 (by decide) (by decide) ?_
        show Steps p.tables e below (s₁.setTop (mkF m 26 #[.val (.int nv), .val (.int dv), .val (.int den), .val (.double (FP.ddiv (FP.i2d nv) (FP.i2d den))), .second, .unset] [])) _
        exact kt
      have pre18 : ∀ t, Steps p.tables e below (s₁.setTop (mkF m 30 #[.val (.int nv), .val (.int dv), .val (.int den), .val (.double (FP.ddiv (FP.i2d nv) (FP.i2d den))), .second, .val (.int (0 : Int32))] [(.double (FP.ddiv (FP.i2d nv) (FP.i2d den)))])) t → Steps p.tables e below (s₁.setTop (entryFrame m #[(.int nv), (.int dv)] maxLocals)) t := fun t kt => by
        refine pre17 _ ?_
        show Steps p.tables e below (s₁.setTop (mkF m 26 #[.val (.int nv), .val (.int dv), .val (.int den), .val (.double (FP.ddiv (FP.i2d nv) (FP.i2d den))), .second, .unset] [])) _
        refine XS.iconst X0.here hx rfl (hb hby at_26) ?_
        show Steps p.tables e below (s₁.setTop (mkF m 27 #[.val (.int nv), .val (.int dv), .val (.int den), .val (.double (FP.ddiv (FP.i2d nv) (FP.i2d den))), .second, .unset] [(.int (0 : Int32))])) _
        refine XS.istore X0.here hx rfl (hb hby at_27) rfl (l' := #[.val (.int nv), .val (.int dv), .val (.int den), .val (.double (FP.ddiv (FP.i2d nv) (FP.i2d den))), .second, .val (.int (0 : Int32))]) rfl ?_
        show Steps p.tables e below (s₁.setTop (mkF m 29 #[.val (.int nv), .val (.int dv), .val (.int den), .val (.double (FP.ddiv (FP.i2d nv) (FP.i2d den))), .second, .val (.int (0 : Int32))] [])) _
        refine XS.dloadN X0.here hx rfl (hb hby at_29) rfl ?_
        show Steps p.tables e below (s₁.setTop (mkF m 30 #[.val (.int nv), .val (.int dv), .val (.int den), .val (.double (FP.ddiv (FP.i2d nv) (FP.i2d den))), .second, .val (.int (0 : Int32))] [(.double (FP.ddiv (FP.i2d nv) (FP.i2d den)))])) _
        exact kt
      obtain ⟨v19, _, ⟨T19, L19, k19, n19⟩, -, X19, ⟨Lc19, hQ19, l19, y19, z19⟩, st19⟩ := Jvm.LawKit.callS X0 hx (y := (⟨"com/example/novation/novation/risk/EwmaVolatility", "isDecay", "(D)Z"⟩ : MethodName)) hown (mvT hZ (hw _ (List.mem_of_getElem? (i := 1) rfl))) (mvT hZ (hw _ (List.mem_of_getElem? (i := 2) rfl))) (mvT hZ (hw _ (List.mem_of_getElem? (i := 3) rfl))) (mvT hZ (hw _ (List.mem_of_getElem? (i := 4) rfl))) (by decide) (backOf (W := 0) (rm1 l Z aZ hw [] (FP.ddiv (FP.i2d nv) (FP.i2d den))  h0 n0 Z0 ) hZ (hw _ (List.mem_of_getElem? (i := 4) rfl)) (hw _ (List.mem_of_getElem? (i := 3) rfl)) (by decide) (by decide)) (g := (mkF m 30 #[.val (.int nv), .val (.int dv), .val (.int den), .val (.double (FP.ddiv (FP.i2d nv) (FP.i2d den))), .second, .val (.int (0 : Int32))] [(.double (FP.ddiv (FP.i2d nv) (FP.i2d den)))])) rfl (by rw [hml]; rfl) (argsL := [(.double (FP.ddiv (FP.i2d nv) (FP.i2d den)))]) (rest := []) (lenOf pd_0 rfl) rfl (by show 2 * 0 + _ ≤ _; exact Nat.le_of_eq rfl) (hb hby at_30) (fun _ _ => ⟨rfl, e0, (by decide : 0 + 0 ≤ _), (by decide : 0 + 0 ≤ _)⟩)
      dsimp only [Pt.U, Pt.locs, Pt.cells, Pt.slots] at X19 l19 y19 z19 st19 hQ19
      rw [l19, y19, z19] at X19
      clear l19 y19 z19
      obtain ⟨vq19, N19q, e19⟩ := hQ19
      rw [vq19] at st19
      have N19 := Fr.app N0 N19q
      have pre19 : ∀ t, Steps p.tables e below (T19.setTop (mkF m 33 #[.val (.int nv), .val (.int dv), .val (.int den), .val (.double (FP.ddiv (FP.i2d nv) (FP.i2d den))), .second, .val (.int (0 : Int32))] [(.int (f1 (FP.ddiv (FP.i2d nv) (FP.i2d den))))])) t → Steps p.tables e below (s₁.setTop (entryFrame m #[(.int nv), (.int dv)] maxLocals)) t := fun t kt => pre18 _ (st19 t kt)
      have pre20 : ∀ t, Steps p.tables e below (T19.setTop (mkF m 35 #[.val (.int nv), .val (.int dv), .val (.int den), .val (.double (FP.ddiv (FP.i2d nv) (FP.i2d den))), .second, .val (.int (0 : Int32))] [(.int (0 : Int32)), (.int (f1 (FP.ddiv (FP.i2d nv) (FP.i2d den))))])) t → Steps p.tables e below (s₁.setTop (entryFrame m #[(.int nv), (.int dv)] maxLocals)) t := fun t kt => by
        refine pre19 _ ?_
        show Steps p.tables e below (T19.setTop (mkF m 33 #[.val (.int nv), .val (.int dv), .val (.int den), .val (.double (FP.ddiv (FP.i2d nv) (FP.i2d den))), .second, .val (.int (0 : Int32))] [(.int (f1 (FP.ddiv (FP.i2d nv) (FP.i2d den))))])) _
        refine XS.iload X19.here hx rfl (hb hby at_33) rfl ?_
        show Steps p.tables e below (T19.setTop (mkF m 35 #[.val (.int nv), .val (.int dv), .val (.int den), .val (.double (FP.ddiv (FP.i2d nv) (FP.i2d den))), .second, .val (.int (0 : Int32))] [(.int (0 : Int32)), (.int (f1 (FP.ddiv (FP.i2d nv) (FP.i2d den))))])) _
        exact kt
      obtain ⟨fs, hr, hrun, hended, hW, hsame⟩ := X19.leave (v := some (.int (1 : Int32))) (fun h => by rw [Bd.returns] at h; cases h)
      refine ⟨_, _, pre20 _ ?_, hrun, hended, _, _, rfl, ?_, ⟨_, rfl⟩, hW, hsame.mono (by decide) (by decide)⟩
      · show Steps p.tables e below (T19.setTop (mkF m 35 #[.val (.int nv), .val (.int dv), .val (.int den), .val (.double (FP.ddiv (FP.i2d nv) (FP.i2d den))), .second, .val (.int (0 : Int32))] [(.int (0 : Int32)), (.int (f1 (FP.ddiv (FP.i2d nv) (FP.i2d den))))])) _
        refine XS.icmpNo X19.here hx rfl (hb hby at_35) rfl (teq (by rw [hl, if_pos c9, if_neg c12])).2 ?_
        show Steps p.tables e below (T19.setTop (mkF m 38 #[.val (.int nv), .val (.int dv), .val (.int den), .val (.double (FP.ddiv (FP.i2d nv) (FP.i2d den))), .second, .val (.int (0 : Int32))] [])) _
        refine XS.iconst X19.here hx rfl (hb hby at_38) ?_
        show Steps p.tables e below (T19.setTop (mkF m 39 #[.val (.int nv), .val (.int dv), .val (.int den), .val (.double (FP.ddiv (FP.i2d nv) (FP.i2d den))), .second, .val (.int (0 : Int32))] [(.int (1 : Int32))])) _
        refine XS.goto X19.here hx rfl (pc0 := 39) (pc' := 43) rfl (hb hby at_39) (by decide) (by decide) ?_
        show Steps p.tables e below (T19.setTop (mkF m 43 #[.val (.int nv), .val (.int dv), .val (.int den), .val (.double (FP.ddiv (FP.i2d nv) (FP.i2d den))), .second, .val (.int (0 : Int32))] [(.int (1 : Int32))])) _
        exact retN X19 hx (t := .boolean) Bd.returns (by simp) (hb hby at_43) hr
      · show Q0 nv dv h0 n0 _ T19.heap _
        exact ⟨rfl, N19⟩
  · have pre21 : ∀ t, Steps p.tables e below (s₁.setTop (mkF m 26 #[.val (.int nv), .val (.int dv), .val (.int den), .val (.double (FP.ddiv (FP.i2d nv) (FP.i2d den))), .second, .unset] [])) t → Steps p.tables e below (s₁.setTop (entryFrame m #[(.int nv), (.int dv)] maxLocals)) t := fun t kt => by
      refine pre8 _ ?_
      show Steps p.tables e below (s₁.setTop (mkF m 14 #[.val (.int nv), .val (.int dv), .val (.int den), .val (.double (FP.ddiv (FP.i2d nv) (FP.i2d den))), .second, .unset] [(.int nv)])) _
      refine XS.ifYes X0.here hx rfl (pc0 := 14) (pc' := 26) rfl (hb hby at_14) rfl ((if0 _ _).trans (flt c9).2.2.2) (by decide) (by decide) ?_
      show Steps p.tables e below (s₁.setTop (mkF m 26 #[.val (.int nv), .val (.int dv), .val (.int den), .val (.double (FP.ddiv (FP.i2d nv) (FP.i2d den))), .second, .unset] [])) _
      exact kt
    have pre22 : ∀ t, Steps p.tables e below (s₁.setTop (mkF m 30 #[.val (.int nv), .val (.int dv), .val (.int den), .val (.double (FP.ddiv (FP.i2d nv) (FP.i2d den))), .second, .val (.int (0 : Int32))] [(.double (FP.ddiv (FP.i2d nv) (FP.i2d den)))])) t → Steps p.tables e below (s₁.setTop (entryFrame m #[(.int nv), (.int dv)] maxLocals)) t := fun t kt => by
      refine pre21 _ ?_
      show Steps p.tables e below (s₁.setTop (mkF m 26 #[.val (.int nv), .val (.int dv), .val (.int den), .val (.double (FP.ddiv (FP.i2d nv) (FP.i2d den))), .second, .unset] [])) _
      refine XS.iconst X0.here hx rfl (hb hby at_26) ?_
      show Steps p.tables e below (s₁.setTop (mkF m 27 #[.val (.int nv), .val (.int dv), .val (.int den), .val (.double (FP.ddiv (FP.i2d nv) (FP.i2d den))), .second, .unset] [(.int (0 : Int32))])) _
      refine XS.istore X0.here hx rfl (hb hby at_27) rfl (l' := #[.val (.int nv), .val (.int dv), .val (.int den), .val (.double (FP.ddiv (FP.i2d nv) (FP.i2d den))), .second, .val (.int (0 : Int32))]) rfl ?_
      show Steps p.tables e below (s₁.setTop (mkF m 29 #[.val (.int nv), .val (.int dv), .val (.int den), .val (.double (FP.ddiv (FP.i2d nv) (FP.i2d den))), .second, .val (.int (0 : Int32))] [])) _
      refine XS.dloadN X0.here hx rfl (hb hby at_29) rfl ?_
      show Steps p.tables e below (s₁.setTop (mkF m 30 #[.val (.int nv), .val (.int dv), .val (.int den), .val (.double (FP.ddiv (FP.i2d nv) (FP.i2d den))), .second, .val (.int (0 : Int32))] [(.double (FP.ddiv (FP.i2d nv) (FP.i2d den)))])) _
      exact kt
    obtain ⟨v24, _, ⟨T24, L24, k24, n24⟩, -, X24, ⟨Lc24, hQ24, l24, y24, z24⟩, st24⟩ := Jvm.LawKit.callS X0 hx (y := (⟨"com/example/novation/novation/risk/EwmaVolatility", "isDecay", "(D)Z"⟩ : MethodName)) hown (mvT hZ (hw _ (List.mem_of_getElem? (i := 1) rfl))) (mvT hZ (hw _ (List.mem_of_getElem? (i := 2) rfl))) (mvT hZ (hw _ (List.mem_of_getElem? (i := 3) rfl))) (mvT hZ (hw _ (List.mem_of_getElem? (i := 4) rfl))) (by decide) (backOf (W := 0) (rm1 l Z aZ hw [] (FP.ddiv (FP.i2d nv) (FP.i2d den))  h0 n0 Z0 ) hZ (hw _ (List.mem_of_getElem? (i := 4) rfl)) (hw _ (List.mem_of_getElem? (i := 3) rfl)) (by decide) (by decide)) (g := (mkF m 30 #[.val (.int nv), .val (.int dv), .val (.int den), .val (.double (FP.ddiv (FP.i2d nv) (FP.i2d den))), .second, .val (.int (0 : Int32))] [(.double (FP.ddiv (FP.i2d nv) (FP.i2d den)))])) rfl (by rw [hml]; rfl) (argsL := [(.double (FP.ddiv (FP.i2d nv) (FP.i2d den)))]) (rest := []) (lenOf pd_0 rfl) rfl (by show 2 * 0 + _ ≤ _; exact Nat.le_of_eq rfl) (hb hby at_30) (fun _ _ => ⟨rfl, e0, (by decide : 0 + 0 ≤ _), (by decide : 0 + 0 ≤ _)⟩)
    dsimp only [Pt.U, Pt.locs, Pt.cells, Pt.slots] at X24 l24 y24 z24 st24 hQ24
    rw [l24, y24, z24] at X24
    clear l24 y24 z24
    obtain ⟨vq24, N24q, e24⟩ := hQ24
    rw [vq24] at st24
    have N24 := Fr.app N0 N24q
    have pre24 : ∀ t, Steps p.tables e below (T24.setTop (mkF m 33 #[.val (.int nv), .val (.int dv), .val (.int den), .val (.double (FP.ddiv (FP.i2d nv) (FP.i2d den))), .second, .val (.int (0 : Int32))] [(.int (f1 (FP.ddiv (FP.i2d nv) (FP.i2d den))))])) t → Steps p.tables e below (s₁.setTop (entryFrame m #[(.int nv), (.int dv)] maxLocals)) t := fun t kt => pre22 _ (st24 t kt)
    have pre25 : ∀ t, Steps p.tables e below (T24.setTop (mkF m 35 #[.val (.int nv), .val (.int dv), .val (.int den), .val (.double (FP.ddiv (FP.i2d nv) (FP.i2d den))), .second, .val (.int (0 : Int32))] [(.int (0 : Int32)), (.int (f1 (FP.ddiv (FP.i2d nv) (FP.i2d den))))])) t → Steps p.tables e below (s₁.setTop (entryFrame m #[(.int nv), (.int dv)] maxLocals)) t := fun t kt => by
      refine pre24 _ ?_
      show Steps p.tables e below (T24.setTop (mkF m 33 #[.val (.int nv), .val (.int dv), .val (.int den), .val (.double (FP.ddiv (FP.i2d nv) (FP.i2d den))), .second, .val (.int (0 : Int32))] [(.int (f1 (FP.ddiv (FP.i2d nv) (FP.i2d den))))])) _
      refine XS.iload X24.here hx rfl (hb hby at_33) rfl ?_
      show Steps p.tables e below (T24.setTop (mkF m 35 #[.val (.int nv), .val (.int dv), .val (.int den), .val (.double (FP.ddiv (FP.i2d nv) (FP.i2d den))), .second, .val (.int (0 : Int32))] [(.int (0 : Int32)), (.int (f1 (FP.ddiv (FP.i2d nv) (FP.i2d den))))])) _
      exact kt
    obtain ⟨fs, hr, hrun, hended, hW, hsame⟩ := X24.leave (v := some (.int (1 : Int32))) (fun h => by rw [Bd.returns] at h; cases h)
    refine ⟨_, _, pre25 _ ?_, hrun, hended, _, _, rfl, ?_, ⟨_, rfl⟩, hW, hsame.mono (by decide) (by decide)⟩
    · show Steps p.tables e below (T24.setTop (mkF m 35 #[.val (.int nv), .val (.int dv), .val (.int den), .val (.double (FP.ddiv (FP.i2d nv) (FP.i2d den))), .second, .val (.int (0 : Int32))] [(.int (0 : Int32)), (.int (f1 (FP.ddiv (FP.i2d nv) (FP.i2d den))))])) _
      refine XS.icmpNo X24.here hx rfl (hb hby at_35) rfl (teq (by rw [hl, if_neg c9])).2 ?_
      show Steps p.tables e below (T24.setTop (mkF m 38 #[.val (.int nv), .val (.int dv), .val (.int den), .val (.double (FP.ddiv (FP.i2d nv) (FP.i2d den))), .second, .val (.int (0 : Int32))] [])) _
      refine XS.iconst X24.here hx rfl (hb hby at_38) ?_
      show Steps p.tables e below (T24.setTop (mkF m 39 #[.val (.int nv), .val (.int dv), .val (.int den), .val (.double (FP.ddiv (FP.i2d nv) (FP.i2d den))), .second, .val (.int (0 : Int32))] [(.int (1 : Int32))])) _
      refine XS.goto X24.here hx rfl (pc0 := 39) (pc' := 43) rfl (hb hby at_39) (by decide) (by decide) ?_
      show Steps p.tables e below (T24.setTop (mkF m 43 #[.val (.int nv), .val (.int dv), .val (.int den), .val (.double (FP.ddiv (FP.i2d nv) (FP.i2d den))), .second, .val (.int (0 : Int32))] [(.int (1 : Int32))])) _
      exact retN X24 hx (t := .boolean) Bd.returns (by simp) (hb hby at_43) hr
    · show Q0 nv dv h0 n0 _ T24.heap _
      exact ⟨rfl, N24⟩
set_option maxRecDepth 65536 in
set_option maxHeartbeats 40000000 in
theorem comes_1 {Post : Tables → Env → Array Value → State → Outcome → State → Prop} (hpost : ∀ tb e args s v u, (limb_1_1.after args s (.returned v) u = true ∧ limb_1_2.after args s (.returned v) u = true ∧ True) → FrameEnd s (.returned v) u (Jvm.fieldLocs frame_1_writes args s ++ Jvm.arrayLocs frame_1_arrays args s ++ Jvm.staticLocs frame_1_statics s) 0 0 → Post tb e args s (.returned v) u) :
    ArmFor flags0 classFile x code maxLocals ret World_1 tables_1 room_1 Calls_1 rest_1 Pre_1 Post := by
  intro l hfl _ _ p e ha hc hk s m args below hf hA hF happ hP
  obtain ⟨hcalls, hrest, hpre⟩ := hP
  obtain ⟨-, -, -, hnamed, -, -, -, hat⟩ := (Spec.applies_iff hf).mp happ
  obtain ⟨hg, hn⟩ := and_e (Cond.before_iff.mp (show (Jvm.Cond.and given_1 narrow_1).before args s = true from hpre))
  obtain ⟨ga0, gb0⟩ := and_e hg
  obtain ⟨ga1, gb1⟩ := and_e gb0
  obtain ⟨w0, w1, rfl⟩ : ∃ w0 w1 : Value, args = #[w0, w1] := by
    have hs : args.size = 2 := by simpa [Cond.value, given_1] using ga0
    obtain ⟨L⟩ := args
    match L, hs with
    | [w0, w1], _ => exact ⟨w0, w1, rfl⟩
  have hw := fun d (hd : d ∈ tables_1) => atoms_spec (ws := Jvm.Cond.code x code maxLocals ret :: tables_1) hat d (List.mem_cons_of_mem _ hd)
  have hfit : Fit s := fun {y c} hc i hi => by
    obtain ⟨ha, rfl⟩ := Array.getElem?_eq_some_iff.mp hc
    have q := List.all_eq_true.mp ((Array.all_eq_true_iff_forall_mem.mp hF) _ (Array.getElem_mem ha)) i (List.mem_range.mpr hi)
    simpa [Array.getElem?_eq_getElem hi] using q
  obtain ⟨i0, ei0⟩ := is_v ga1
  obtain rfl : w0 = (.int i0) := Option.some.inj ei0
  obtain ⟨i1, ei1⟩ := is_v gb1
  obtain rfl : w1 = (.int i1) := Option.some.inj ei1
  obtain ⟨n, o, h1, h2, h3, _, L, rfl, ⟨rfl, N⟩, hq⟩ := rm0 l s _ hw tables_1 i0 i1  s.heap s.heap.size (Nat.le_refl _)  p e ha hc hk s m _ below hf ((Spec.applies_iff_loose hf).mp happ).1 ⟨rfl, State.Warmed39.refl s, rfl⟩ trivial
  refine ⟨n, _, h1, h2, h3, hpost _ _ _ _ _ _ ⟨Cond.after_iff.mpr rfl, Cond.after_iff.mpr (eq_i res_at (Term.int_eval (1)) rfl), trivial⟩ ⟨hq.1, hq.2.1, (hq.2.2.sift fun y hy => Or.inr (N y hy)).mono (by decide) (by decide)⟩⟩
theorem main_1_1 : Claimed_1_1 := comes_1 fun _ _ _ _ _ _ h hF => ⟨h.1, hF⟩
theorem main_1_2 : Claimed_1_2 := comes_1 fun _ _ _ _ _ _ h hF => ⟨h.2.1, hF⟩
end Jvm.Pilot.@@N@@
namespace Jvm.Pilot.@@N@@
open Jvm Jvm.ClassFile Sem Op Lib Jvm.Free Jvm.Stand Jvm.Pilot.@@N@@.Jvm.D
/-! MADE BY PROGRAM (witnessworld.py) out of the Statement's table words and the real class files: 9 classes; the members and pool entries that the words name. The judged class is class 1, her method 1. -/
namespace start1
open Jvm.ClassFile
def u (s : String) : CpInfo := .utf8 (stringToUtf16 s)
/-- a pool by its gaps: so many unusable entries, then the entry; so many at the end -/
def gap : Nat → List CpInfo → List CpInfo
  | 0, r => r
  | n + 1, r => .unusable :: gap n r
def poolList (es : List (Nat × CpInfo)) (last : Nat) : List CpInfo := es.foldr (fun e r => gap e.1 (e.2 :: r)) (gap last [])
def pool (es : List (Nat × CpInfo)) (last : Nat) : Array CpInfo := ⟨poolList es last⟩
def fileOf (pool : Array CpInfo) (this : Nat) (attrs : Array Attribute := #[]) (ms : Array MethodInfo := #[]) (fl : Nat := 33) (sup : Nat := 0) (ifs : Array Nat := #[]) (fds : Array FieldInfo := #[]) : ClassFile where
  minorVersion := 0
  majorVersion := 65
  constantPool := pool
  accessFlags := fl
  thisClass := this
  superClass := sup
  interfaces := ifs
  fields := fds
  methods := ms
  attributes := attrs
def plain (name : String) (sup : Option ClassId) : Class where
  name := name
  kind := .ordinary
  loader := none
  accessFlags := 33
  super := sup
  interfaces := #[]
  cf := none
  fields := #[]
  methods := #[]
  instanceTypes := #[]
  staticTypes := #[]
  resolved := #[]
  callSites := []
  init := .initialized
  statics := none
  mirror := none

def pool0 : Array CpInfo := pool [(5, u "<init>"), (0, u "()V"), (1, .class_ 10), (1, u "java/lang/Object")] 113

def k0m0 : Method := { name := "<init>", desc := "()V", sig := { parameters := [], returnType := none }, accessFlags := 1, code := none }
/-- java/lang/Object -/
def k0 : Class := { plain "java/lang/Object" none with
  accessFlags := 33
  interfaces := #[]
  cf := some (fileOf pool0 8 #[] #[{ accessFlags := 1, nameIndex := 5, descriptorIndex := 6, attributes := #[] }] 33 0 #[] #[])
  fields := #[]
  methods := #[k0m0]
  instanceTypes := #[]
  staticTypes := #[]
  resolved := Array.replicate 124 none
  statics := none }

def pool1 : Array CpInfo := pool [(2, .class_ 4), (1, u "java/lang/Object"), (0, u "<init>"), (0, u "()V"), (0, .integer 1073741823), (0, .methodref 9 10), (0, .class_ 11), (0, .nameAndType 12 13), (0, u "com/example/novation/novation/risk/EwmaVolatility"), (0, u "isDecay"), (0, u "(D)Z"), (0, .class_ 15), (0, u "com/example/novation/novation/risk/EwmaVolatilityIsDecayPinLaw"), (2, u "law"), (0, u "(II)Z")] 3

def k1m0 : Method := { name := "<init>", desc := "()V", sig := { parameters := [], returnType := none }, accessFlags := 2, code := none }
def k1c1 : Code := { maxStack := 4, maxLocals := 6, code := code, exceptionTable := #[], attributes := #[] }
def k1m1 : Method := { name := "law", desc := "(II)Z", sig := { parameters := [.int, .int], returnType := some .boolean }, accessFlags := 9, code := some k1c1 }
/-- com/example/novation/novation/risk/EwmaVolatilityIsDecayPinLaw -/
def k1 : Class := { plain "com/example/novation/novation/risk/EwmaVolatilityIsDecayPinLaw" (some 0) with
  accessFlags := 49
  interfaces := #[]
  cf := some (fileOf pool1 14 #[] #[{ accessFlags := 2, nameIndex := 5, descriptorIndex := 6, attributes := #[] }, { accessFlags := 9, nameIndex := 18, descriptorIndex := 19, attributes := #[] }] 49 2 #[] #[])
  fields := #[]
  methods := #[k1m0, k1m1]
  instanceTypes := #[]
  staticTypes := #[]
  resolved := Array.replicate 23 none
  statics := none }

def pool2 : Array CpInfo := pool [(2, .class_ 4), (1, u "java/lang/Object"), (3, .class_ 10), (1, u "com/example/novation/novation/risk/EwmaVolatility"), (0, u "isDecay"), (0, u "(D)Z"), (11, u "decay"), (0, u "D"), (10, u "normalisation"), (30, .class_ 68), (0, u "com/example/novation/novation/risk/EwmaVolatility$Estimate"), (42, u "WINDOW"), (0, u "I"), (2, u "NONE")] 44

def k2c0 : Code := { maxStack := 4, maxLocals := 2, code := prog_78_method_2_code, exceptionTable := #[], attributes := #[] }
def k2m0 : Method := { name := "isDecay", desc := "(D)Z", sig := { parameters := [.double], returnType := some .boolean }, accessFlags := 9, code := some k2c0 }
/-- com/example/novation/novation/risk/EwmaVolatility -/
def k2 : Class := { plain "com/example/novation/novation/risk/EwmaVolatility" (some 0) with
  accessFlags := 49
  interfaces := #[]
  cf := some (fileOf pool2 8 #[.nestMembers #[67]] #[{ accessFlags := 9, nameIndex := 11, descriptorIndex := 12, attributes := #[] }] 49 2 #[] #[{ accessFlags := 25, nameIndex := 111, descriptorIndex := 112, attributes := #[] }, { accessFlags := 26, nameIndex := 115, descriptorIndex := 112, attributes := #[] }, { accessFlags := 18, nameIndex := 24, descriptorIndex := 25, attributes := #[] }, { accessFlags := 18, nameIndex := 36, descriptorIndex := 25, attributes := #[] }])
  fields := #[{ name := "WINDOW", type := .int, accessFlags := 25, slot := 0, constantValue := 0 }, { name := "NONE", type := .int, accessFlags := 26, slot := 1, constantValue := 0 }, { name := "decay", type := .double, accessFlags := 18, slot := 0, constantValue := 0 }, { name := "normalisation", type := .double, accessFlags := 18, slot := 1, constantValue := 0 }]
  methods := #[k2m0]
  instanceTypes := #[.double, .double]
  staticTypes := #[.int, .int]
  resolved := Array.replicate 160 none
  statics := none }

def pool3 : Array CpInfo := pool [(1, u "java/lang/Cloneable"), (0, .class_ 1), (0, u "java/lang/Object"), (0, .class_ 3)] 3

/-- java/lang/Cloneable -/
def k3 : Class := { plain "java/lang/Cloneable" (some 0) with
  accessFlags := 1537
  interfaces := #[]
  cf := some (fileOf pool3 2 #[] #[] 1537 4 #[] #[])
  fields := #[]
  methods := #[]
  instanceTypes := #[]
  staticTypes := #[]
  resolved := Array.replicate 8 none
  statics := none }

def pool4 : Array CpInfo := pool [(1, u "java/io/Serializable"), (0, .class_ 1), (0, u "java/lang/Object"), (0, .class_ 3)] 3

/-- java/io/Serializable -/
def k4 : Class := { plain "java/io/Serializable" (some 0) with
  accessFlags := 1537
  interfaces := #[]
  cf := some (fileOf pool4 2 #[] #[] 1537 4 #[] #[])
  fields := #[]
  methods := #[]
  instanceTypes := #[]
  staticTypes := #[]
  resolved := Array.replicate 8 none
  statics := none }

/-- the primitive byte -/
def k5 : Class := { plain "byte" none with kind := .primitive 'B', accessFlags := 0x411 }
/-- [B -/
def k6 : Class := { plain "[B" (some 0) with kind := .array 5 .byte, interfaces := #[3, 4], accessFlags := 1041 }

/-- the primitive int -/
def k7 : Class := { plain "int" none with kind := .primitive 'I', accessFlags := 0x411 }
/-- [I -/
def k8 : Class := { plain "[I" (some 0) with kind := .array 7 .int, interfaces := #[3, 4], accessFlags := 1041 }

def heap : Heap := #[]
def classes : Array Class := #[k0, k1, k2, k3, k4, k5, k6, k7, k8]
def interned : List (Array UInt16 × Addr) := []
def slotsUsed : Nat := 0
def theMethod : MethodId := ⟨1, 1⟩
def args0 : Array Value := #[.int 5, .int 9]
def aboutOver (below : List Frame) : State where
  vm := { classes := classes, interned := interned.toArray }
  heap := heap
  slotsUsed := slotsUsed
  threads := #[{ frames := .invoking theMethod args0 :: below }]
def below0 : List Frame := [.native { method := ⟨0, 0⟩, args := #[] }]
def about1 : State := aboutOver below0
def p0 : Program := .bare "" "" ""
def e0 : Env := launch0.env 0 0 0
theorem w_frames : about1.frames = Frame.invoking theMethod args0 :: below0 := rfl
set_option maxRecDepth 65536 in
theorem w_args : argsFit about1.vm theMethod args0 = true := by decide +kernel
set_option maxRecDepth 65536 in
theorem w_heap : heapFits about1 = true := by decide +kernel
set_option maxRecDepth 65536 in
theorem w_runnable : about1.curStatus? = some .runnable := by decide +kernel
set_option maxRecDepth 65536 in
theorem w_alone : about1.alone = true := by decide +kernel
set_option maxRecDepth 65536 in
theorem w_named : about1.methodNamed? x = some theMethod := by decide +kernel
set_option maxRecDepth 65536 in
theorem w_hears : about1.hears theMethod below0 = true := by decide +kernel
set_option maxRecDepth 65536 in
theorem w_ripe : about1.ripe theMethod args0 below0 = true := by decide +kernel
theorem w_running : about1.status = .running := rfl
set_option maxRecDepth 65536 in
theorem w_room : about1.hasRoom e0.platform room_1 = true :=
  launch0.hasRoom_least _ room_1 (by decide +kernel) (by decide +kernel) (by decide +kernel) (by decide +kernel) (by decide +kernel) (by decide +kernel)
theorem allAtoms_all (ts : List Jvm.Cond) (a : Array Jvm.Value) (st : Jvm.State) : (allAtoms ts).before a st = ts.all (fun c => c.before a st) := by
  induction ts with
  | nil => rfl
  | cons c t ih =>
    show (Jvm.Cond.and c (allAtoms t)).before a st = _
    rw [Jvm.Cond.before_and, ih, List.all_cons]
def words1 : List Jvm.Cond := Jvm.Cond.code x code maxLocals ret :: tables_1
/-- a 'code' word, met by the world's own term for the bytes: nothing is compared byte by byte -/
theorem code_word {y : MethodName} {bytes : ByteArray} {mx : Nat} {rt : Option FieldType} {a : Array Value} {s : State} {m : MethodId} {meth : Method} {c : Code} (h1 : s.methodNamed? y = some m) (h2 : s.vm.method? m = some meth) (h3 : meth.code = some c) (h4 : c.code = bytes)
    (h5 : (c.maxLocals == mx && c.exceptionTable.isEmpty && decide (c.maxStack ≤ mostOperands) && decide (meth.sig.returnType = rt) && !meth.locks && decide (parseMethodDescriptor y.desc = some meth.sig)) = true) : (Jvm.Cond.code y bytes mx rt).before a s = true := by
  simp only [Bool.and_eq_true, beq_iff_eq, Bool.not_eq_true', decide_eq_true_eq] at h5
  obtain ⟨⟨⟨⟨⟨g1, g2⟩, g3⟩, g4⟩, g5⟩, g6⟩ := h5
  simp [Cond.before, Cond.holds, Cond.value, h1, h2, h3, h4, g1, g2, g3, g4, g5, g6]
def isCode : Jvm.Cond → Bool
  | .code _ _ _ _ => true
  | _ => false
theorem all_split {L : List Jvm.Cond} {P : Jvm.Cond → Bool} (h1 : L.all (fun c => isCode c || P c) = true) (h2 : ∀ c ∈ L.filter isCode, P c = true) : L.all P = true := by
  refine List.all_eq_true.mpr fun c hc => ?_
  have h := List.all_eq_true.mp h1 c hc
  rcases Bool.eq_false_or_eq_true (isCode c) with hi | hi
  · exact h2 c (List.mem_filter.mpr ⟨hc, hi⟩)
  · simpa [hi] using h
set_option maxRecDepth 65536 in
theorem w_c0 : (Jvm.Cond.code x code maxLocals ret).before args0 about1 = true := code_word (m := ⟨1, 1⟩) (meth := k1m1) (c := k1c1) (by decide +kernel) rfl rfl rfl (by decide +kernel)
set_option maxRecDepth 65536 in
theorem w_c1 : (Jvm.Cond.code ({ cls := "com/example/novation/novation/risk/EwmaVolatility", name := "isDecay", desc := "(D)Z" } : Jvm.MethodName) prog_78_method_2_code (2 : Nat) (Option.some Jvm.ClassFile.FieldType.boolean)).before args0 about1 = true := code_word (m := ⟨2, 0⟩) (meth := k2m0) (c := k2c0) (by decide +kernel) rfl rfl rfl (by decide +kernel)
def codes1 : List Jvm.Cond := [Jvm.Cond.code x code maxLocals ret, Jvm.Cond.code ({ cls := "com/example/novation/novation/risk/EwmaVolatility", name := "isDecay", desc := "(D)Z" } : Jvm.MethodName) prog_78_method_2_code (2 : Nat) (Option.some Jvm.ClassFile.FieldType.boolean)]
set_option maxRecDepth 65536 in
theorem codes_eq : words1.filter isCode = codes1 := rfl
theorem w_codes : ∀ c ∈ words1.filter isCode, c.before args0 about1 = true := by
  rw [codes_eq]
  intro c hc
  simp only [codes1, List.mem_cons, List.not_mem_nil, or_false] at hc
  rcases hc with rfl | rfl
  · exact w_c0
  · exact w_c1
set_option maxRecDepth 65536 in
theorem w_t1 : words1.all (fun c => isCode c || c.before args0 about1) = true := by decide +kernel
theorem w_tables : (allAtoms (Jvm.Cond.code x code maxLocals ret :: tables_1)).before args0 about1 = true := by
  rw [allAtoms_all]
  show words1.all (fun c => c.before args0 about1) = true
  refine all_split ?_ w_codes
  rw [w_t1]
set_option maxRecDepth 65536 in
theorem w_case : (Jvm.Cond.and given_1 narrow_1).before args0 about1 = true := by decide +kernel
theorem w_applies : (headSpec (Jvm.Cond.code x code maxLocals ret :: tables_1) room_1).applies x e0.platform about1 = true :=
  (Spec.applies_iff w_frames).mpr ⟨w_running, w_runnable, w_alone, w_named, w_hears, w_ripe, w_room, w_tables⟩
theorem atStart : AtStart classFile x code maxLocals ret World_1 tables_1 room_1 Calls_1 rest_1 Pre_1 launch0 p0 e0 about1 theMethod args0 below0 :=
  ⟨lists_1, trivial, launch0.admits_env _ _ _, launch0.least_env, fairChoices_fair.cas, fairChoices_fair.clock, w_frames, w_args, w_heap, w_applies, trivial, trivial, w_case⟩
end start1
theorem witness_1 : WitnessClaimed_1 := ⟨start1.p0, start1.e0, start1.about1, start1.theMethod, start1.args0, start1.below0, start1.atStart⟩
end Jvm.Pilot.@@N@@

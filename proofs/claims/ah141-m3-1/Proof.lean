import JvmDerived
import JvmDerived.Pilot.@@N@@Statement
import JvmDerived.Pilot.@@N@@Code
set_option linter.unusedVariables false
set_option linter.unusedSimpArgs false
@@BLOCK:NumsL.lean.txt@@
namespace Jvm.Pilot.@@N@@.Fl
open Jvm Jvm.FP Jvm.FP.Core
theorem own_quot {a b : UInt64} {i j : Int} (ha : DInt i a) (hb : DInt j b) (hj : 0 < j) : ∃ s : Bool, (i ≠ 0 → s = decide (i < 0)) ∧ val64 (Core.ddiv a b) = roundRatio b64 s i.natAbs j.natAbs 0 := by
  rw [val64_ddiv]
  unfold DInt at ha hb
  cases hx : val64 a with
  | nan => rw [hx] at ha; exact ha.elim
  | inf s => rw [hx] at ha; exact ha.elim
  | fin s c q =>
    cases hy : val64 b with
    | nan => rw [hy] at hb; exact hb.elim
    | inf s => rw [hy] at hb; exact hb.elim
    | fin t d r =>
      rw [hx] at ha
      rw [hy] at hb
      have h1 := whole_natAbs ha
      have h2 := whole_natAbs hb
      have hd : d ≠ 0 := fun q => by have := (whole_zero hb).mp q; omega
      have ht : t = false := by rw [whole_sign hb (by omega)]; simp; omega
      subst ht
      refine ⟨(s != false), fun hi => by rw [whole_sign ha hi]; simp, ?_⟩
      show (if d = 0 then (if c = 0 then Datum.nan else .inf (s != false)) else roundRatio b64 (s != false) c d (q - r)) = _
      rw [if_neg hd]
      refine roundRatio_congr (by omega) (by omega) ?_
      have p1 := Nat.two_pow_pos ((-q).toNat + r.toNat)
      have p2 := Nat.two_pow_pos (q.toNat + (-r).toNat)
      have key : c * j.natAbs * 2 ^ (q.toNat + (-r).toNat) = i.natAbs * d * 2 ^ ((-q).toNat + r.toNat) := by
        rw [Nat.pow_add, Nat.pow_add]
        calc c * j.natAbs * (2 ^ q.toNat * 2 ^ (-r).toNat) = (c * 2 ^ q.toNat) * (j.natAbs * 2 ^ (-r).toNat) := by ac_rfl
          _ = (i.natAbs * 2 ^ (-q).toNat) * (d * 2 ^ r.toNat) := by rw [h1, h2]
          _ = i.natAbs * d * (2 ^ (-q).toNat * 2 ^ r.toNat) := by ac_rfl
      generalize hX : q.toNat + (-r).toNat = X at key p2
      generalize hY : (-q).toNat + r.toNat = Y at key p1
      by_cases hqr : r ≤ q
      · have e1 : X = (q - r - 0).toNat + Y := by omega
        have e2 : (0 - (q - r)).toNat = 0 := by omega
        rw [e2, Nat.pow_zero, Nat.mul_one]
        rw [e1, Nat.pow_add, ← Nat.mul_assoc] at key
        exact Nat.eq_of_mul_eq_mul_right p1 key
      · have e1 : Y = (0 - (q - r)).toNat + X := by omega
        have e2 : (q - r - 0).toNat = 0 := by omega
        rw [e2, Nat.pow_zero, Nat.mul_one]
        rw [e1, Nat.pow_add, ← Nat.mul_assoc] at key
        exact Nat.eq_of_mul_eq_mul_right p2 key
theorem own_cancel {m c : Nat} {E Q : Int} (h : m * 2 ^ (E.toNat + (-Q).toNat) = c * 2 ^ (Q.toNat + (-E).toNat)) : m * 2 ^ (E - Q).toNat = c * 2 ^ (Q - E).toNat := by
  have p1 := Nat.two_pow_pos (E.toNat + (-Q).toNat)
  have p2 := Nat.two_pow_pos (Q.toNat + (-E).toNat)
  generalize hX : E.toNat + (-Q).toNat = X at h p1
  generalize hY : Q.toNat + (-E).toNat = Y at h p2
  by_cases hq : Q ≤ E
  · have e1 : X = (E - Q).toNat + Y := by omega
    have e2 : (Q - E).toNat = 0 := by omega
    rw [e2, Nat.pow_zero, Nat.mul_one]
    rw [e1, Nat.pow_add, ← Nat.mul_assoc] at h
    exact Nat.eq_of_mul_eq_mul_right p2 h
  · have e1 : Y = (Q - E).toNat + X := by omega
    have e2 : (E - Q).toNat = 0 := by omega
    rw [e2, Nat.pow_zero, Nat.mul_one]
    rw [e1, Nat.pow_add, ← Nat.mul_assoc] at h
    exact Nat.eq_of_mul_eq_mul_right p1 h
theorem own_cross {m c k : Nat} {E Q : Int} (h1 : m * 2 ^ E.toNat = k * 2 ^ (-E).toNat) (h2 : c * 2 ^ Q.toNat = k * 2 ^ (-Q).toNat) : m * 2 ^ (E - Q).toNat = c * 2 ^ (Q - E).toNat := by
  apply own_cancel
  rw [Nat.pow_add, Nat.pow_add, ← Nat.mul_assoc, ← Nat.mul_assoc, h1, h2]
  ac_rfl
theorem own_ratio {c d i j : Nat} {Q R : Int} (h1 : c * 2 ^ Q.toNat = i * 2 ^ (-Q).toNat) (h2 : d * 2 ^ R.toNat = j * 2 ^ (-R).toNat) : c * j * 2 ^ (Q - R).toNat = i * d * 2 ^ (R - Q).toNat := by
  apply own_cancel
  rw [Nat.pow_add, Nat.pow_add]
  calc c * j * (2 ^ Q.toNat * 2 ^ (-R).toNat) = (c * 2 ^ Q.toNat) * (j * 2 ^ (-R).toNat) := by ac_rfl
    _ = (i * 2 ^ (-Q).toNat) * (d * 2 ^ R.toNat) := by rw [h1, h2]
    _ = i * d * (2 ^ R.toNat * 2 ^ (-Q).toNat) := by ac_rfl
theorem own_whole_fin {i : Int} {d : Datum} (h : Whole i d) : ∃ s c q, d = .fin s c q := by
  cases d with
  | nan => exact h.elim
  | inf s => exact h.elim
  | fin s c q => exact ⟨s, c, q, rfl⟩
theorem own_fits_down {c k : Nat} {q : Int} (h : Core.fits b64 (.fin false c q)) (hv : c * 2 ^ q.toNat = k * 2 ^ (-q).toNat) (hk : 0 < k) : Core.fits b64 (.fin false c (q - 3)) := by
  obtain ⟨h1, h2, h3, h4⟩ := h
  have hm : b64.qmin = -1074 := by decide
  have hp : b64.p = 53 := rfl
  rw [hm] at h2 h4
  rw [hp] at h1
  have hq : -53 < q := by
    refine Int.lt_of_not_ge fun hle => ?_
    have e1 : q.toNat = 0 := by omega
    rw [e1, Nat.pow_zero, Nat.mul_one] at hv
    have p : (2 : Nat) ^ 53 ≤ 2 ^ (-q).toNat := Nat.pow_le_pow_right (by omega) (by omega)
    have p2 : 2 ^ (-q).toNat ≤ k * 2 ^ (-q).toNat := Nat.le_mul_of_pos_left _ hk
    omega
  exact ⟨h1, by rw [hm]; omega, by omega, Or.inr (by omega)⟩
theorem own_canon {k : Nat} (hk : 0 < k) (h : k ≤ 2 ^ 53) : ∃ c q, Core.fits b64 (.fin false c (q - 3)) ∧ c * 2 ^ q.toNat = k * 2 ^ (-q).toNat := by
  have hf := round_fits good_b64 (ofInt (k : Int))
  have hw : Whole (k : Int) (round b64 (ofInt (k : Int))) := whole_round good_b64 wide_b64 (by show ((k : Int)).natAbs ≤ 2 ^ 53; omega) (whole_ofInt _)
  obtain ⟨s, c, q, e⟩ := own_whole_fin hw
  rw [e] at hf hw
  have hs : s = false := by rw [whole_sign hw (by omega)]; simp
  subst hs
  have hv := whole_natAbs hw
  exact ⟨c, q, own_fits_down hf hv (by omega), hv⟩
/-- a is finite, of the sign +, and worth i / 8 -/
def Eig (i : Nat) (a : UInt64) : Prop := ∃ c q, val64 a = .fin false c q ∧ c * 2 ^ (q + 3).toNat = i * 2 ^ (-(q + 3)).toNat
theorem own_div8 {i : Nat} {a : UInt64} (hi : 0 < i) (ha : DInt (i : Int) a) : Eig i (Core.ddiv a 4620693217682128896) := by
  have e8 : val64 4620693217682128896 = .fin false (2 ^ 52) (-49) := by decide +kernel
  unfold DInt at ha
  have hf := val64_fits a
  obtain ⟨s, c, q, e⟩ := own_whole_fin ha
  rw [e] at ha hf
  have hs : s = false := by rw [whole_sign ha (by omega)]; simp
  subst hs
  have hv : c * 2 ^ q.toNat = i * 2 ^ (-q).toNat := whole_natAbs ha
  have hd := own_fits_down hf hv hi
  refine ⟨c, q - 3, ?_, by rw [Int.sub_add_cancel]; exact hv⟩
  rw [val64_ddiv, e, e8]
  show roundRatio b64 (false != false) c (2 ^ 52) (q - (-49)) = _
  refine roundRatio_exact good_b64 (by decide) hd ?_
  rw [show (q - (-49) - (q - 3)).toNat = 52 by omega, show (q - 3 - (q - (-49))).toNat = 0 by omega, Nat.pow_zero, Nat.mul_one]
theorem own_add {i j : Nat} {a b : UInt64} (ha : Eig i a) (hb : Eig j b) (h : i + j ≤ 2 ^ 53) : Eig (i + j) (Core.dadd a b) := by
  obtain ⟨c, q, ea, va⟩ := ha
  obtain ⟨d, r, eb, vb⟩ := hb
  have wa : Whole (i : Int) (.fin false c (q + 3)) := by
    show ((c * 2 ^ (q + 3).toNat : Nat) : Int) = (i : Int) * ((2 ^ (-(q + 3)).toNat : Nat) : Int)
    rw [va]; exact Int.natCast_mul _ _
  have wb : Whole (j : Int) (.fin false d (r + 3)) := by
    show ((d * 2 ^ (r + 3).toNat : Nat) : Int) = (j : Int) * ((2 ^ (-(r + 3)).toNat : Nat) : Int)
    rw [vb]; exact Int.natCast_mul _ _
  have ws := whole_sum wa wb
  have hmin : min (q + 3) (r + 3) = min q r + 3 := by omega
  have hsu : sumUnits false c (q + 3) false d (r + 3) (min (q + 3) (r + 3)) = sumUnits false c q false d r (min q r) := by
    unfold sumUnits inUnits
    rw [hmin, show q + 3 - (min q r + 3) = q - min q r by omega, show r + 3 - (min q r + 3) = r - min q r by omega]
  have hnn : 0 ≤ sumUnits false c q false d r (min q r) := by
    show (0 : Int) ≤ ((inUnits c q (min q r) : Nat) : Int) + ((inUnits d r (min q r) : Nat) : Int)
    omega
  have es : exactSum (.fin false c (q + 3)) (.fin false d (r + 3)) = .fin (sumSign false false (sumUnits false c (q + 3) false d (r + 3) (min (q + 3) (r + 3)))) (sumUnits false c (q + 3) false d (r + 3) (min (q + 3) (r + 3))).natAbs (min (q + 3) (r + 3)) := rfl
  rw [es, hsu, hmin] at ws
  have hsg : sumSign false false (sumUnits false c q false d r (min q r)) = false := by
    unfold sumSign
    split
    · rfl
    · simp; omega
  rw [hsg] at ws
  have ev : val64 (Core.dadd a b) = roundRatio b64 false (sumUnits false c q false d r (min q r)).natAbs 1 (min q r) := by
    rw [val64_dadd, ea, eb]
    show round b64 (.fin (sumSign false false (sumUnits false c q false d r (min q r))) (sumUnits false c q false d r (min q r)).natAbs (min q r)) = _
    rw [hsg]; rfl
  generalize (sumUnits false c q false d r (min q r)).natAbs = m at ws ev
  generalize min q r = e at ws ev
  have hv : m * 2 ^ (e + 3).toNat = (i + j) * 2 ^ (-(e + 3)).toNat := by
    have := whole_natAbs ws
    rw [show ((i : Int) + (j : Int)).natAbs = i + j by omega] at this
    exact this
  by_cases h0 : i + j = 0
  · have m0 : m = 0 := (whole_zero ws).mpr (by omega)
    subst m0
    refine ⟨0, b64.qmin, by rw [ev]; rfl, by rw [h0]; simp⟩
  · obtain ⟨c', q', hf, hv'⟩ := own_canon (k := i + j) (by omega) h
    refine ⟨c', q' - 3, ?_, by rw [Int.sub_add_cancel]; exact hv'⟩
    rw [ev]
    refine roundRatio_exact good_b64 (by decide) hf ?_
    have := own_cross hv hv'
    rw [show e - (q' - 3) = e + 3 - q' by omega, show q' - 3 - e = q' - (e + 3) by omega, Nat.mul_one]
    exact this
theorem own_i2d {n : Int32} (h : 0 ≤ n.toInt) : Eig (8 * n.toInt.toNat) (Core.i2d n) := by
  by_cases h0 : n.toInt = 0
  · have : n = 0 := Int32.toInt_inj.mp (by rw [h0]; rfl)
    subst this
    exact ⟨0, b64.qmin, by decide +kernel, by simp⟩
  · have ha := i2d_int n
    unfold DInt at ha
    obtain ⟨s, c, q, e⟩ := own_whole_fin ha
    rw [e] at ha
    have hs : s = false := by rw [whole_sign ha h0]; simp; omega
    subst hs
    have hv := whole_natAbs ha
    refine ⟨c, q, e, ?_⟩
    rw [show n.toInt.natAbs = n.toInt.toNat by omega] at hv
    generalize n.toInt.toNat = N at hv
    by_cases q0 : 0 ≤ q
    · rw [show (q + 3).toNat = q.toNat + 3 by omega, show (-(q + 3)).toNat = 0 by omega, Nat.pow_add, ← Nat.mul_assoc, hv, show (-q).toNat = 0 by omega]
      omega
    · by_cases q3 : q ≤ -3
      · rw [show (q + 3).toNat = 0 by omega]
        rw [show q.toNat = 0 by omega, show (-q).toNat = (-(q + 3)).toNat + 3 by omega, Nat.pow_add] at hv
        generalize 2 ^ (-(q + 3)).toNat = P at hv ⊢
        rw [Nat.pow_zero, Nat.mul_one] at hv ⊢
        rw [hv, Nat.mul_comm 8 N, Nat.mul_assoc, Nat.mul_comm P]
      · have : q = -1 ∨ q = -2 := by omega
        rcases this with rfl | rfl
        · have hv' : c * 1 = N * 2 := hv
          show c * 4 = 8 * N * 1
          omega
        · have hv' : c * 1 = N * 4 := hv
          show c * 2 = 8 * N * 1
          omega
theorem own_quot8 {i j : Nat} {a b : UInt64} (ha : Eig i a) (hb : Eig j b) (hj : 0 < j) : val64 (Core.ddiv a b) = roundRatio b64 false i j 0 := by
  obtain ⟨c, q, ea, va⟩ := ha
  obtain ⟨d, r, eb, vb⟩ := hb
  have hd : d ≠ 0 := fun h => by
    subst h
    rw [Nat.zero_mul] at vb
    have := Nat.mul_eq_zero.mp vb.symm
    have := Nat.two_pow_pos (-(r + 3)).toNat
    omega
  rw [val64_ddiv, ea, eb]
  show (if d = 0 then (if c = 0 then Datum.nan else .inf (false != false)) else roundRatio b64 (false != false) c d (q - r)) = _
  rw [if_neg hd]
  refine roundRatio_congr (by omega) hj ?_
  have := own_ratio va vb
  rw [show q + 3 - (r + 3) = q - r - 0 by omega, show r + 3 - (q + 3) = 0 - (q - r) by omega] at this
  exact this
theorem own_eig_zval {i : Nat} {a : UInt64} (h : Eig i a) (hi : 0 < i) : Core.dcmp a Core.dconst0 = some .gt := by
  obtain ⟨c, q, ea, va⟩ := h
  have hc : 0 < c := by
    refine Nat.pos_of_ne_zero fun h => ?_
    subst h
    rw [Nat.zero_mul] at va
    have := Nat.mul_eq_zero.mp va.symm
    have := Nat.two_pow_pos (-(q + 3)).toNat
    omega
  have z0 : zval b64 (val64 Core.dconst0) = 0 := by decide +kernel
  have n0 : val64 Core.dconst0 ≠ .nan := by decide +kernel
  have e := order_zval good_b64 (val64_fits a) (val64_fits Core.dconst0) (by rw [ea]; intro h; cases h) n0
  show order (val64 a) (val64 Core.dconst0) = _
  rw [e, z0]
  have : 0 < zval b64 (val64 a) := by
    rw [ea]
    show (0 : Int) < ((inUnits c q b64.qmin : Nat) : Int)
    have : 0 < inUnits c q b64.qmin := Nat.mul_pos hc (Nat.two_pow_pos _)
    omega
  rw [Int.compare_eq_gt.mpr this]
theorem own_eig_nn {i : Nat} {a : UInt64} (h : Eig i a) : val64 a ≠ .nan := by
  obtain ⟨c, q, ea, va⟩ := h
  rw [ea]; intro h; cases h
theorem own_eig_fin {i : Nat} {a : UInt64} (h : Eig i a) : Jvm.Free.Fl.Fin64 a := by
  obtain ⟨c, q, ea, va⟩ := h
  rw [Jvm.Free.Fl.fin64_core]
  exact ⟨_, _, _, ea⟩
end Jvm.Pilot.@@N@@.Fl
namespace Jvm.RoadKit
open Sem ClassFile Op Lib Jvm.Stand Jvm.Free Jvm.LawKit
section New
variable {p : Program} {l : Launch} {e : Env} {R : Room} {s : State} {m : MethodId} {args : Array Value} {below : List Frame} {meth : Method} {c : Code} {T : State} {locs : List Loc} {cells slots : Nat}
theorem retI (X : Stand p l e R s m args below meth c T locs cells slots) (hx : p.tables.exec = Jvm.exec) {pc : Nat} {Ls : Array Slot} {z : Int32} {rest : List Value} (hret : meth.sig.returnType = some .int) (hd : decode c.code pc = .ok (.ireturn, 1)) {fs : List Frame}
    (hl : ∀ (f : JFrame) (acts : List Action), f.method = m → f.locked = none → f.entered = [] → (doReturn e (T.setTop f) acts (some (.int z))).1 = T.setFrames fs) : Steps p.tables e below (T.setTop (mkF m pc Ls (.int z :: rest))) (T.setFrames fs) := by
  have hm' : T.vm.method? m = some meth := X.method'
  have hn : narrow .int (.int z) = .int z := rfl
  show Steps p.tables e below (T.setTop { method := m, pc := pc, locals := Ls, stack := _ :: rest, locked := none }) _
  jvm_step X.here [X.here.top, hx, hd, hm', hret, hn]
  first | (intro acts; rw [hl _ acts rfl rfl rfl]) | rw [hl _ _ rfl rfl rfl]
  exact Steps.refl _
end New
end Jvm.RoadKit
namespace Jvm.Pilot.@@N@@
open Jvm Jvm.ClassFile Sem Op Lib Jvm.Free Jvm.Stand Jvm.LawKit Jvm.RoadKit Bundle Jvm.Pilot.@@N@@.Jvm.D
theorem d2_0 : decode jdk_30_method_1_code 0 = .ok (.aload_n 0, 1) := by decide +kernel
theorem d2_1 : decode jdk_30_method_1_code 1 = .ok (.invokespecial 1, 3) := by decide +kernel
theorem d2_4 : decode jdk_30_method_1_code 4 = .ok (.return_, 1) := by decide +kernel
theorem pn_2 : plainName "java/lang/Record" = true := by first | (simp [plainName, overriddenIn]; done) | decide +kernel
theorem pd_0 : parseMethodDescriptor "(DD)V" = some ⟨[.double, .double], none⟩ := by decide +kernel
theorem pd_1 : parseMethodDescriptor "()V" = some ⟨[], none⟩ := by decide +kernel
theorem pd_2 : parseMethodDescriptor "(ID)D" = some ⟨[.int, .double], some .double⟩ := by decide +kernel
theorem ef_2 (m : MethodId) (x0 : Addr) : entryFrame m #[(.ref x0)] 1 = mkF m 0 #[.val (.ref x0)] [] := by first | (simp [entryFrame, mkF, argsToLocals, Value.category]; done) | rfl
def Q2 (h0 : Heap) (n0 : Nat) (v : Option Value) (h : Heap) (L : List Loc) : Prop := v = none ∧ Fr n0 L ∧ h = h0
set_option maxRecDepth 65536 in
set_option maxHeartbeats 40000000 in
theorem rm2 (l : Launch) (Z : State) (aZ : Array Value) (hw : ∀ d ∈ tables_1, d.before aZ Z = true) (ws : List Jvm.Cond) (a0 : Addr)  (h0 : Heap) (n0 : Nat) (Z0 : n0 ≤ h0.size)  :
    MetFree l (⟨"java/lang/Record", "<init>", "()V"⟩ : MethodName) (head1 (Jvm.Cond.code (⟨"java/lang/Record", "<init>", "()V"⟩ : MethodName) jdk_30_method_1_code 1 none :: ws) ({ frames := 1, cells := 0, slots := 0, locals := 12 } : Room)) (fun a U => a = #[(.ref a0)] ∧ Z.Warmed39 U.vm ∧ U.heap = h0) (fun _ _ _ _ _ => True) (fun _ U oc U' => ∃ v L, oc = .returned v ∧ Q2 h0 n0 v U'.heap L ∧ FrameEnd U oc U' L ({ frames := 1, cells := 0, slots := 0, locals := 12 } : Room).cells ({ frames := 1, cells := 0, slots := 0, locals := 12 } : Room).slots) := by
  refine MetFree.of_bodySF (plainFor_of_name pn_2) hisR ?_
  intro p e s m args below meth c s₁ Bd hml0 hP hK
  obtain ⟨rfl, hZ, hh⟩ := hP
  have hx := Bd.exec
  have hby := Bd.bytes
  have hml : c.maxLocals = 1 := hml0
  have hown : s.vm.findClass "java/lang/Record" = some m.cls := findClass_of_methodNamed Bd.named
  have hnm := (name_of_methodNamed Bd.named Bd.method).1
  have X0 : Stand p l e ({ frames := 1, cells := 0, slots := 0, locals := 12 } : Room) s m #[(.ref a0)] below meth c s₁ [] 0 0 := Stand.of_body Bd
  have e0 : s₁.heap = h0 := by rw [← hh, Bd.state]; rfl
  have N0 := Fr.nil n0
  have pre0 : ∀ t, Steps p.tables e below (s₁.setTop (mkF m 0 #[.val (.ref a0)] [])) t → Steps p.tables e below (s₁.setTop (entryFrame m #[(.ref a0)] 1)) t := fun t kt => castTop (ef_2 m a0) kt
  have pre1 : ∀ t, Steps p.tables e below (s₁.setTop (mkF m 1 #[.val (.ref a0)] [(.ref a0)])) t → Steps p.tables e below (s₁.setTop (entryFrame m #[(.ref a0)] 1)) t := fun t kt => by
    refine pre0 _ ?_
    show Steps p.tables e below (s₁.setTop (mkF m 0 #[.val (.ref a0)] [])) _
    refine XS.aloadN X0.here hx rfl (hb hby d2_0) rfl rfl ?_
    show Steps p.tables e below (s₁.setTop (mkF m 1 #[.val (.ref a0)] [(.ref a0)])) _
    exact kt
  obtain ⟨T2, X2, e2, st2⟩ := initO X0 hx hZ hown (hw _ (List.mem_of_getElem? (i := 16) rfl)) (hw _ (List.mem_of_getElem? (i := 17) rfl)) (hw _ (List.mem_of_getElem? (i := 18) rfl)) e0 (g := (mkF m 1 #[.val (.ref a0)] [(.ref a0)])) rfl (by rw [hml]; rfl) rfl (hb hby d2_1) (by decide) (W := 0) (by show 2 * 0 + _ ≤ _; exact Nat.le_of_eq rfl) (by decide)
  have pre2 : ∀ t, Steps p.tables e below (T2.setTop (mkF m 4 #[.val (.ref a0)] [])) t → Steps p.tables e below (s₁.setTop (entryFrame m #[(.ref a0)] 1)) t := fun t kt => pre1 _ (st2 t kt)
  obtain ⟨fs, hr, hrun, hended, hW, hsame⟩ := X2.leave (v := none) (fun _ => rfl)
  refine ⟨_, _, pre2 _ ?_, hrun, hended, _, _, rfl, ?_, ⟨_, rfl⟩, hW, hsame.mono (by decide) (by decide)⟩
  · show Steps p.tables e below (T2.setTop (mkF m 4 #[.val (.ref a0)] [])) _
    exact X2.returnOut hx Bd.returns (hb hby d2_4) hr
  · show Q2 h0 n0 _ T2.heap _
    rw [e2]
    exact ⟨rfl, N0, rfl⟩
theorem d1_0 : decode prog_2_method_1_code 0 = .ok (.aload_n 0, 1) := by decide +kernel
theorem d1_1 : decode prog_2_method_1_code 1 = .ok (.invokespecial 1, 3) := by decide +kernel
theorem d1_4 : decode prog_2_method_1_code 4 = .ok (.dload_n 1, 1) := by decide +kernel
theorem d1_5 : decode prog_2_method_1_code 5 = .ok (.dconst 0, 1) := by decide +kernel
theorem d1_6 : decode prog_2_method_1_code 6 = .ok (.dcmp .l, 1) := by decide +kernel
theorem d1_7 : decode prog_2_method_1_code 7 = .ok (.ifCond .le 19, 3) := by decide +kernel
theorem d1_10 : decode prog_2_method_1_code 10 = .ok (.dload_n 3, 1) := by decide +kernel
theorem d1_11 : decode prog_2_method_1_code 11 = .ok (.dconst 0, 1) := by decide +kernel
theorem d1_12 : decode prog_2_method_1_code 12 = .ok (.dcmp .l, 1) := by decide +kernel
theorem d1_13 : decode prog_2_method_1_code 13 = .ok (.ifCond .le 13, 3) := by decide +kernel
theorem d1_16 : decode prog_2_method_1_code 16 = .ok (.dload_n 1, 1) := by decide +kernel
theorem d1_17 : decode prog_2_method_1_code 17 = .ok (.dload_n 3, 1) := by decide +kernel
theorem d1_18 : decode prog_2_method_1_code 18 = .ok (.dadd, 1) := by decide +kernel
theorem d1_19 : decode prog_2_method_1_code 19 = .ok (.ldc2_w 9, 3) := by decide +kernel
theorem d1_22 : decode prog_2_method_1_code 22 = .ok (.dcmp .g, 1) := by decide +kernel
theorem d1_23 : decode prog_2_method_1_code 23 = .ok (.ifCond .lt 18, 3) := by decide +kernel
theorem d1_26 : decode prog_2_method_1_code 26 = .ok (.new 11, 3) := by decide +kernel
theorem d1_29 : decode prog_2_method_1_code 29 = .ok (.dup, 1) := by decide +kernel
theorem d1_30 : decode prog_2_method_1_code 30 = .ok (.dload_n 1, 1) := by decide +kernel
theorem d1_31 : decode prog_2_method_1_code 31 = .ok (.dload_n 3, 1) := by decide +kernel
theorem d1_32 : decode prog_2_method_1_code 32 = .ok (.invokedynamic 13, 5) := by decide +kernel
theorem d1_37 : decode prog_2_method_1_code 37 = .ok (.invokespecial 17, 3) := by decide +kernel
theorem d1_40 : decode prog_2_method_1_code 40 = .ok (.athrow, 1) := by decide +kernel
theorem d1_41 : decode prog_2_method_1_code 41 = .ok (.aload_n 0, 1) := by decide +kernel
theorem d1_42 : decode prog_2_method_1_code 42 = .ok (.dload_n 1, 1) := by decide +kernel
theorem d1_43 : decode prog_2_method_1_code 43 = .ok (.putfield 20, 3) := by decide +kernel
theorem d1_46 : decode prog_2_method_1_code 46 = .ok (.aload_n 0, 1) := by decide +kernel
theorem d1_47 : decode prog_2_method_1_code 47 = .ok (.dload_n 3, 1) := by decide +kernel
theorem d1_48 : decode prog_2_method_1_code 48 = .ok (.putfield 26, 3) := by decide +kernel
theorem d1_51 : decode prog_2_method_1_code 51 = .ok (.return_, 1) := by decide +kernel
theorem pn_1 : plainName "com/example/attestry/attestry/BetaMixture$Beta" = true := by first | (simp [plainName, overriddenIn]; done) | decide +kernel
theorem ef_1 (m : MethodId) (x0 : Addr) (x1 : UInt64) (x2 : UInt64) : entryFrame m #[(.ref x0), (.double x1), (.double x2)] 5 = mkF m 0 #[.val (.ref x0), .val (.double x1), .second, .val (.double x2), .second] [] := by first | (simp [entryFrame, mkF, argsToLocals, Value.category]; done) | rfl
def Q1 (Z : State) (a0 : Addr) (d1 : UInt64) (d2 : UInt64) (h0 : Heap) (n0 : Nat) (v : Option Value) (h : Heap) (L : List Loc) : Prop := v = none ∧ Fr n0 L ∧ Keep h0 h [a0] ∧ Fld Z h a0 "com/example/attestry/attestry/BetaMixture$Beta" "a" "D" (.double d1) ∧ Fld Z h a0 "com/example/attestry/attestry/BetaMixture$Beta" "b" "D" (.double d2)
set_option maxRecDepth 65536 in
set_option maxHeartbeats 40000000 in
theorem rm1 (l : Launch) (Z : State) (aZ : Array Value) (hw : ∀ d ∈ tables_1, d.before aZ Z = true) (ws : List Jvm.Cond) (a0 : Addr) (d1 : UInt64) (d2 : UInt64)  (h0 : Heap) (n0 : Nat) (Z0 : n0 ≤ h0.size) (F_a : Fld Z h0 a0 "com/example/attestry/attestry/BetaMixture$Beta" "a" "D" (.double (0 : UInt64))) (F_b : Fld Z h0 a0 "com/example/attestry/attestry/BetaMixture$Beta" "b" "D" (.double (0 : UInt64))) (E_o : Exa Z h0 a0 "com/example/attestry/attestry/BetaMixture$Beta") (g_a0 : n0 ≤ a0) (h1 : (0 : Int32) < (cmpValue (FP.dcmp d1 FP.dconst0) .l)) (h2 : (0 : Int32) < (cmpValue (FP.dcmp d2 FP.dconst0) .l)) (hnn : Jvm.Free.Fl.NoNaN64 (FP.dadd d1 d2)) (h3 : (cmpValue (FP.dcmp (FP.dadd d1 d2) (9218868437227405312 : UInt64)) .g) < (0 : Int32)) :
    MetFree l (⟨"com/example/attestry/attestry/BetaMixture$Beta", "<init>", "(DD)V"⟩ : MethodName) (head1 (Jvm.Cond.code (⟨"com/example/attestry/attestry/BetaMixture$Beta", "<init>", "(DD)V"⟩ : MethodName) prog_2_method_1_code 5 none :: ws) ({ frames := 2, cells := 0, slots := 0, locals := 24 } : Room)) (fun a U => a = #[(.ref a0), (.double d1), (.double d2)] ∧ Z.Warmed39 U.vm ∧ U.heap = h0) (fun _ _ _ _ _ => True) (fun _ U oc U' => ∃ v L, oc = .returned v ∧ Q1 Z a0 d1 d2 h0 n0 v U'.heap L ∧ FrameEnd U oc U' L ({ frames := 2, cells := 0, slots := 0, locals := 24 } : Room).cells ({ frames := 2, cells := 0, slots := 0, locals := 24 } : Room).slots) := by
  refine MetFree.of_bodySF (plainFor_of_name pn_1) hisR ?_
  intro p e s m args below meth c s₁ Bd hml0 hP hK
  obtain ⟨rfl, hZ, hh⟩ := hP
  have hx := Bd.exec
  have hby := Bd.bytes
  have hml : c.maxLocals = 5 := hml0
  have hown : s.vm.findClass "com/example/attestry/attestry/BetaMixture$Beta" = some m.cls := findClass_of_methodNamed Bd.named
  have hnm := (name_of_methodNamed Bd.named Bd.method).1
  have X0 : Stand p l e ({ frames := 2, cells := 0, slots := 0, locals := 24 } : Room) s m #[(.ref a0), (.double d1), (.double d2)] below meth c s₁ [] 0 0 := Stand.of_body Bd
  have e0 : s₁.heap = h0 := by rw [← hh, Bd.state]; rfl
  have N0 := Fr.nil n0
  have pre0 : ∀ t, Steps p.tables e below (s₁.setTop (mkF m 0 #[.val (.ref a0), .val (.double d1), .second, .val (.double d2), .second] [])) t → Steps p.tables e below (s₁.setTop (entryFrame m #[(.ref a0), (.double d1), (.double d2)] 5)) t := fun t kt => castTop (ef_1 m a0 d1 d2) kt
  have pre4 : ∀ t, Steps p.tables e below (s₁.setTop (mkF m 1 #[.val (.ref a0), .val (.double d1), .second, .val (.double d2), .second] [(.ref a0)])) t → Steps p.tables e below (s₁.setTop (entryFrame m #[(.ref a0), (.double d1), (.double d2)] 5)) t := fun t kt => by
    refine pre0 _ ?_
    show Steps p.tables e below (s₁.setTop (mkF m 0 #[.val (.ref a0), .val (.double d1), .second, .val (.double d2), .second] [])) _
    refine XS.aloadN X0.here hx rfl (hb hby d1_0) rfl rfl ?_
    show Steps p.tables e below (s₁.setTop (mkF m 1 #[.val (.ref a0), .val (.double d1), .second, .val (.double d2), .second] [(.ref a0)])) _
    exact kt
  obtain ⟨v5, _, ⟨T5, L5, k5, n5⟩, -, X5, ⟨Lc5, hQ5, l5, y5, z5⟩, st5⟩ := X0.specialBack hx (y := (⟨"java/lang/Record", "<init>", "()V"⟩ : MethodName)) rfl hown (mvT hZ (hw _ (List.mem_of_getElem? (i := 11) rfl))) (mvT hZ (hw _ (List.mem_of_getElem? (i := 12) rfl))) (mvT hZ (hw _ (List.mem_of_getElem? (i := 15) rfl))) (by decide) (backOf (W := 0) (rm2 l Z aZ hw [] a0  h0 n0 Z0 ) hZ (hw _ (List.mem_of_getElem? (i := 15) rfl)) (hw _ (List.mem_of_getElem? (i := 14) rfl)) (by decide) (by decide)) (g := (mkF m 1 #[.val (.ref a0), .val (.double d1), .second, .val (.double d2), .second] [(.ref a0)])) rfl (by rw [hml]; rfl) (Steps.refl _) (a := a0) (argsL := []) (rest := []) (lenOf pd_1 rfl) rfl (by show 2 * 0 + _ ≤ _; exact Nat.le_of_eq rfl) (hb hby d1_1) (fun _ _ => ⟨rfl, e0, (by decide : 0 + 0 ≤ _), (by decide : 0 + 0 ≤ _)⟩)
  dsimp only [Pt.U, Pt.locs, Pt.cells, Pt.slots] at X5 l5 y5 z5 st5 hQ5
  rw [l5, y5, z5] at X5
  clear l5 y5 z5
  obtain ⟨vq5, N5q, e5⟩ := hQ5
  rw [vq5] at st5
  have N5 := Fr.app N0 N5q
  have pre5 : ∀ t, Steps p.tables e below (T5.setTop (mkF m 4 #[.val (.ref a0), .val (.double d1), .second, .val (.double d2), .second] [])) t → Steps p.tables e below (s₁.setTop (entryFrame m #[(.ref a0), (.double d1), (.double d2)] 5)) t := fun t kt => pre4 _ (st5.trans kt)
  have pre6 : ∀ t, Steps p.tables e below (T5.setTop (mkF m 7 #[.val (.ref a0), .val (.double d1), .second, .val (.double d2), .second] [(.int (cmpValue (FP.dcmp d1 FP.dconst0) .l))])) t → Steps p.tables e below (s₁.setTop (entryFrame m #[(.ref a0), (.double d1), (.double d2)] 5)) t := fun t kt => by
    refine pre5 _ ?_
    show Steps p.tables e below (T5.setTop (mkF m 4 #[.val (.ref a0), .val (.double d1), .second, .val (.double d2), .second] [])) _
    refine XS.dloadN X5.here hx rfl (hb hby d1_4) rfl ?_
    show Steps p.tables e below (T5.setTop (mkF m 5 #[.val (.ref a0), .val (.double d1), .second, .val (.double d2), .second] [(.double d1)])) _
    refine XS.dconst0 X5.here hx rfl (hb hby d1_5) (v := FP.dconst0) rfl ?_
    show Steps p.tables e below (T5.setTop (mkF m 6 #[.val (.ref a0), .val (.double d1), .second, .val (.double d2), .second] [(.double FP.dconst0), (.double d1)])) _
    refine XS.dcmpS X5.here hx rfl (hb hby d1_6) rfl (v := (cmpValue (FP.dcmp d1 FP.dconst0) .l)) rfl ?_
    show Steps p.tables e below (T5.setTop (mkF m 7 #[.val (.ref a0), .val (.double d1), .second, .val (.double d2), .second] [(.int (cmpValue (FP.dcmp d1 FP.dconst0) .l))])) _
    exact kt
  have pre7 : ∀ t, Steps p.tables e below (T5.setTop (mkF m 10 #[.val (.ref a0), .val (.double d1), .second, .val (.double d2), .second] [])) t → Steps p.tables e below (s₁.setTop (entryFrame m #[(.ref a0), (.double d1), (.double d2)] 5)) t := fun t kt => by
    refine pre6 _ ?_
    show Steps p.tables e below (T5.setTop (mkF m 7 #[.val (.ref a0), .val (.double d1), .second, .val (.double d2), .second] [(.int (cmpValue (FP.dcmp d1 FP.dconst0) .l))])) _
    refine XS.ifNo X5.here hx rfl (hb hby d1_7) rfl ((if0 _ _).trans (tlt h1).2.2.2) ?_
    show Steps p.tables e below (T5.setTop (mkF m 10 #[.val (.ref a0), .val (.double d1), .second, .val (.double d2), .second] [])) _
    exact kt
  have pre8 : ∀ t, Steps p.tables e below (T5.setTop (mkF m 13 #[.val (.ref a0), .val (.double d1), .second, .val (.double d2), .second] [(.int (cmpValue (FP.dcmp d2 FP.dconst0) .l))])) t → Steps p.tables e below (s₁.setTop (entryFrame m #[(.ref a0), (.double d1), (.double d2)] 5)) t := fun t kt => by
    refine pre7 _ ?_
    show Steps p.tables e below (T5.setTop (mkF m 10 #[.val (.ref a0), .val (.double d1), .second, .val (.double d2), .second] [])) _
    refine XS.dloadN X5.here hx rfl (hb hby d1_10) rfl ?_
    show Steps p.tables e below (T5.setTop (mkF m 11 #[.val (.ref a0), .val (.double d1), .second, .val (.double d2), .second] [(.double d2)])) _
    refine XS.dconst0 X5.here hx rfl (hb hby d1_11) (v := FP.dconst0) rfl ?_
    show Steps p.tables e below (T5.setTop (mkF m 12 #[.val (.ref a0), .val (.double d1), .second, .val (.double d2), .second] [(.double FP.dconst0), (.double d2)])) _
    refine XS.dcmpS X5.here hx rfl (hb hby d1_12) rfl (v := (cmpValue (FP.dcmp d2 FP.dconst0) .l)) rfl ?_
    show Steps p.tables e below (T5.setTop (mkF m 13 #[.val (.ref a0), .val (.double d1), .second, .val (.double d2), .second] [(.int (cmpValue (FP.dcmp d2 FP.dconst0) .l))])) _
    exact kt
  have pre9 : ∀ t, Steps p.tables e below (T5.setTop (mkF m 16 #[.val (.ref a0), .val (.double d1), .second, .val (.double d2), .second] [])) t → Steps p.tables e below (s₁.setTop (entryFrame m #[(.ref a0), (.double d1), (.double d2)] 5)) t := fun t kt => by
    refine pre8 _ ?_
    show Steps p.tables e below (T5.setTop (mkF m 13 #[.val (.ref a0), .val (.double d1), .second, .val (.double d2), .second] [(.int (cmpValue (FP.dcmp d2 FP.dconst0) .l))])) _
    refine XS.ifNo X5.here hx rfl (hb hby d1_13) rfl ((if0 _ _).trans (tlt h2).2.2.2) ?_
    show Steps p.tables e below (T5.setTop (mkF m 16 #[.val (.ref a0), .val (.double d1), .second, .val (.double d2), .second] [])) _
    exact kt
  have pre10 : ∀ t, Steps p.tables e below (T5.setTop (mkF m 23 #[.val (.ref a0), .val (.double d1), .second, .val (.double d2), .second] [(.int (cmpValue (FP.dcmp (FP.dadd d1 d2) (9218868437227405312 : UInt64)) .g))])) t → Steps p.tables e below (s₁.setTop (entryFrame m #[(.ref a0), (.double d1), (.double d2)] 5)) t := fun t kt => by
    refine pre9 _ ?_
    show Steps p.tables e below (T5.setTop (mkF m 16 #[.val (.ref a0), .val (.double d1), .second, .val (.double d2), .second] [])) _
    refine XS.dloadN X5.here hx rfl (hb hby d1_16) rfl ?_
    show Steps p.tables e below (T5.setTop (mkF m 17 #[.val (.ref a0), .val (.double d1), .second, .val (.double d2), .second] [(.double d1)])) _
    refine XS.dloadN X5.here hx rfl (hb hby d1_17) rfl ?_
    show Steps p.tables e below (T5.setTop (mkF m 18 #[.val (.ref a0), .val (.double d1), .second, .val (.double d2), .second] [(.double d2), (.double d1)])) _
    refine XS.daddS X5.here hx rfl (hb hby d1_18) rfl hnn (v := (FP.dadd d1 d2)) rfl ?_
    show Steps p.tables e below (T5.setTop (mkF m 19 #[.val (.ref a0), .val (.double d1), .second, .val (.double d2), .second] [(.double (FP.dadd d1 d2))])) _
    refine X5.ldc2DoubleC hx hown (mvT hZ (hw _ (List.mem_of_getElem? (i := 19) rfl))) (g := (mkF m 19 #[.val (.ref a0), .val (.double d1), .second, .val (.double d2), .second] [(.double (FP.dadd d1 d2))])) rfl (hb hby d1_19) _ ?_
    show Steps p.tables e below (T5.setTop (mkF m 22 #[.val (.ref a0), .val (.double d1), .second, .val (.double d2), .second] [(.double (9218868437227405312 : UInt64)), (.double (FP.dadd d1 d2))])) _
    refine XS.dcmpS X5.here hx rfl (hb hby d1_22) rfl (v := (cmpValue (FP.dcmp (FP.dadd d1 d2) (9218868437227405312 : UInt64)) .g)) rfl ?_
    show Steps p.tables e below (T5.setTop (mkF m 23 #[.val (.ref a0), .val (.double d1), .second, .val (.double d2), .second] [(.int (cmpValue (FP.dcmp (FP.dadd d1 d2) (9218868437227405312 : UInt64)) .g))])) _
    exact kt
  have pre11 : ∀ t, Steps p.tables e below (T5.setTop (mkF m 41 #[.val (.ref a0), .val (.double d1), .second, .val (.double d2), .second] [])) t → Steps p.tables e below (s₁.setTop (entryFrame m #[(.ref a0), (.double d1), (.double d2)] 5)) t := fun t kt => by
    refine pre10 _ ?_
    show Steps p.tables e below (T5.setTop (mkF m 23 #[.val (.ref a0), .val (.double d1), .second, .val (.double d2), .second] [(.int (cmpValue (FP.dcmp (FP.dadd d1 d2) (9218868437227405312 : UInt64)) .g))])) _
    refine XS.ifYes X5.here hx rfl (pc0 := 23) (pc' := 41) rfl (hb hby d1_23) rfl ((if0 _ _).trans (tlt h3).1) (by decide) (by decide) ?_
    show Steps p.tables e below (T5.setTop (mkF m 41 #[.val (.ref a0), .val (.double d1), .second, .val (.double d2), .second] [])) _
    exact kt
  have pre12 : ∀ t, Steps p.tables e below (T5.setTop (mkF m 43 #[.val (.ref a0), .val (.double d1), .second, .val (.double d2), .second] [(.double d1), (.ref a0)])) t → Steps p.tables e below (s₁.setTop (entryFrame m #[(.ref a0), (.double d1), (.double d2)] 5)) t := fun t kt => by
    refine pre11 _ ?_
    show Steps p.tables e below (T5.setTop (mkF m 41 #[.val (.ref a0), .val (.double d1), .second, .val (.double d2), .second] [])) _
    refine XS.aloadN X5.here hx rfl (hb hby d1_41) rfl rfl ?_
    show Steps p.tables e below (T5.setTop (mkF m 42 #[.val (.ref a0), .val (.double d1), .second, .val (.double d2), .second] [(.ref a0)])) _
    refine XS.dloadN X5.here hx rfl (hb hby d1_42) rfl ?_
    show Steps p.tables e below (T5.setTop (mkF m 43 #[.val (.ref a0), .val (.double d1), .second, .val (.double d2), .second] [(.double d1), (.ref a0)])) _
    exact kt
  obtain ⟨T13, h13, X13, e13, W13, st13⟩ := putF X5 hx hZ hown (host := "") (Or.inl (hw _ (List.mem_of_getElem? (i := 20) rfl))) Via.refl e5 F_a E_o (Or.inr ⟨(hw _ (List.mem_of_getElem? (i := 21) rfl)), rfl, hnm⟩) (hw _ (List.mem_of_getElem? (i := 5) rfl)) (ty := .double) (by decide) rfl rfl (g := (mkF m 43 #[.val (.ref a0), .val (.double d1), .second, .val (.double d2), .second] [(.double d1), (.ref a0)])) rfl rfl (hb hby d1_43)
  have F13_0 := E_o.wr W13
  have F13_1 := F_a.same W13
  have F13_2 := F_b.other W13 (Or.inr (slot_ne (Or.inr (hw _ (List.mem_of_getElem? (i := 23) rfl))) (Or.inr (hw _ (List.mem_of_getElem? (i := 21) rfl))) (by decide) (t := .double) (t' := .double) (by decide) (by decide)))
  have Zs13 : n0 ≤ h13.size := Nat.le_trans Z0 (Keep.of_wr W13).1
  have K0 := Keep.refl h0 [a0]
  have K13 := K0.wr W13 (Or.inl (List.mem_of_getElem? (i := 0) rfl))
  have N13 := Fr.snoc X13 N5 g_a0
  have pre13 : ∀ t, Steps p.tables e below (T13.setTop (mkF m 46 #[.val (.ref a0), .val (.double d1), .second, .val (.double d2), .second] [])) t → Steps p.tables e below (s₁.setTop (entryFrame m #[(.ref a0), (.double d1), (.double d2)] 5)) t := fun t kt => pre12 _ (st13 t kt)
  have pre14 : ∀ t, Steps p.tables e below (T13.setTop (mkF m 48 #[.val (.ref a0), .val (.double d1), .second, .val (.double d2), .second] [(.double d2), (.ref a0)])) t → Steps p.tables e below (s₁.setTop (entryFrame m #[(.ref a0), (.double d1), (.double d2)] 5)) t := fun t kt => by
    refine pre13 _ ?_
    show Steps p.tables e below (T13.setTop (mkF m 46 #[.val (.ref a0), .val (.double d1), .second, .val (.double d2), .second] [])) _
    refine XS.aloadN X13.here hx rfl (hb hby d1_46) rfl rfl ?_
    show Steps p.tables e below (T13.setTop (mkF m 47 #[.val (.ref a0), .val (.double d1), .second, .val (.double d2), .second] [(.ref a0)])) _
    refine XS.dloadN X13.here hx rfl (hb hby d1_47) rfl ?_
    show Steps p.tables e below (T13.setTop (mkF m 48 #[.val (.ref a0), .val (.double d1), .second, .val (.double d2), .second] [(.double d2), (.ref a0)])) _
    exact kt
  obtain ⟨T15, h15, X15, e15, W15, st15⟩ := putF X13 hx hZ hown (host := "") (Or.inl (hw _ (List.mem_of_getElem? (i := 22) rfl))) Via.refl e13 F13_2 F13_0 (Or.inr ⟨(hw _ (List.mem_of_getElem? (i := 23) rfl)), rfl, hnm⟩) (hw _ (List.mem_of_getElem? (i := 5) rfl)) (ty := .double) (by decide) rfl rfl (g := (mkF m 48 #[.val (.ref a0), .val (.double d1), .second, .val (.double d2), .second] [(.double d2), (.ref a0)])) rfl rfl (hb hby d1_48)
  have F15_0 := F13_0.wr W15
  have F15_1 := F13_1.other W15 (Or.inr (slot_ne (Or.inr (hw _ (List.mem_of_getElem? (i := 21) rfl))) (Or.inr (hw _ (List.mem_of_getElem? (i := 23) rfl))) (by decide) (t := .double) (t' := .double) (by decide) (by decide)))
  have F15_2 := F13_2.same W15
  have Zs15 : n0 ≤ h15.size := Nat.le_trans Zs13 (Keep.of_wr W15).1
  have K15 := K13.wr W15 (Or.inl (List.mem_of_getElem? (i := 0) rfl))
  have N15 := Fr.snoc X15 N13 g_a0
  have pre15 : ∀ t, Steps p.tables e below (T15.setTop (mkF m 51 #[.val (.ref a0), .val (.double d1), .second, .val (.double d2), .second] [])) t → Steps p.tables e below (s₁.setTop (entryFrame m #[(.ref a0), (.double d1), (.double d2)] 5)) t := fun t kt => pre14 _ (st15 t kt)
  obtain ⟨fs, hr, hrun, hended, hW, hsame⟩ := X15.leave (v := none) (fun _ => rfl)
  refine ⟨_, _, pre15 _ ?_, hrun, hended, _, _, rfl, ?_, ⟨_, rfl⟩, hW, hsame.mono (by decide) (by decide)⟩
  · show Steps p.tables e below (T15.setTop (mkF m 51 #[.val (.ref a0), .val (.double d1), .second, .val (.double d2), .second] [])) _
    exact X15.returnOut hx Bd.returns (hb hby d1_51) hr
  · show Q1 Z a0 d1 d2 h0 n0 _ T15.heap _
    rw [e15]
    exact ⟨rfl, N15, K15, F15_1, F15_2⟩
theorem d4_0 : decode prog_2_method_3_code 0 = .ok (.aload_n 0, 1) := by decide +kernel
theorem d4_1 : decode prog_2_method_3_code 1 = .ok (.getfield 20, 3) := by decide +kernel
theorem d4_4 : decode prog_2_method_3_code 4 = .ok (.dload_n 2, 1) := by decide +kernel
theorem d4_5 : decode prog_2_method_3_code 5 = .ok (.dadd, 1) := by decide +kernel
theorem d4_6 : decode prog_2_method_3_code 6 = .ok (.aload_n 0, 1) := by decide +kernel
theorem d4_7 : decode prog_2_method_3_code 7 = .ok (.getfield 20, 3) := by decide +kernel
theorem d4_10 : decode prog_2_method_3_code 10 = .ok (.aload_n 0, 1) := by decide +kernel
theorem d4_11 : decode prog_2_method_3_code 11 = .ok (.getfield 26, 3) := by decide +kernel
theorem d4_14 : decode prog_2_method_3_code 14 = .ok (.dadd, 1) := by decide +kernel
theorem d4_15 : decode prog_2_method_3_code 15 = .ok (.iload_n 1, 1) := by decide +kernel
theorem d4_16 : decode prog_2_method_3_code 16 = .ok (.i2d, 1) := by decide +kernel
theorem d4_17 : decode prog_2_method_3_code 17 = .ok (.dadd, 1) := by decide +kernel
theorem d4_18 : decode prog_2_method_3_code 18 = .ok (.ddiv, 1) := by decide +kernel
theorem d4_19 : decode prog_2_method_3_code 19 = .ok (.dreturn, 1) := by decide +kernel
theorem ef_4 (m : MethodId) (x0 : Addr) (x1 : Int32) (x2 : UInt64) : entryFrame m #[(.ref x0), (.int x1), (.double x2)] 4 = mkF m 0 #[.val (.ref x0), .val (.int x1), .val (.double x2), .second] [] := by first | (simp [entryFrame, mkF, argsToLocals, Value.category]; done) | rfl
def Q4 (Z : State) (a0 : Addr) (p1 : Int32) (d2 : UInt64) (wa wb : UInt64) (h0 : Heap) (n0 : Nat) (v : Option Value) (h : Heap) (L : List Loc) : Prop := v = some (.double (FP.ddiv (FP.dadd wa d2) (FP.dadd (FP.dadd wa wb) (FP.i2d p1)))) ∧ Fr n0 L ∧ h = h0
set_option maxRecDepth 65536 in
set_option maxHeartbeats 40000000 in
theorem rm4 (l : Launch) (Z : State) (aZ : Array Value) (hw : ∀ d ∈ tables_1, d.before aZ Z = true) (ws : List Jvm.Cond) (a0 : Addr) (p1 : Int32) (d2 : UInt64) (wa wb : UInt64) (h0 : Heap) (n0 : Nat) (Z0 : n0 ≤ h0.size) (F_a : Fld Z h0 a0 "com/example/attestry/attestry/BetaMixture$Beta" "a" "D" (.double wa)) (F_b : Fld Z h0 a0 "com/example/attestry/attestry/BetaMixture$Beta" "b" "D" (.double wb)) (m1 : Jvm.Free.Fl.NoNaN64 (FP.dadd wa d2)) (m2 : Jvm.Free.Fl.NoNaN64 (FP.dadd wa wb)) (m3 : Jvm.Free.Fl.NoNaN64 (FP.dadd (FP.dadd wa wb) (FP.i2d p1))) (m4 : Jvm.Free.Fl.NoNaN64 (FP.ddiv (FP.dadd wa d2) (FP.dadd (FP.dadd wa wb) (FP.i2d p1)))) :
    MetFree l (⟨"com/example/attestry/attestry/BetaMixture$Beta", "posteriorMean", "(ID)D"⟩ : MethodName) (head1 (Jvm.Cond.code (⟨"com/example/attestry/attestry/BetaMixture$Beta", "posteriorMean", "(ID)D"⟩ : MethodName) prog_2_method_3_code 4 (some .double) :: ws) ({ frames := 0, cells := 0, slots := 0, locals := 0 } : Room)) (fun a U => a = #[(.ref a0), (.int p1), (.double d2)] ∧ Z.Warmed39 U.vm ∧ U.heap = h0) (fun _ _ _ _ _ => True) (fun _ U oc U' => ∃ v L, oc = .returned v ∧ Q4 Z a0 p1 d2 wa wb h0 n0 v U'.heap L ∧ FrameEnd U oc U' L ({ frames := 0, cells := 0, slots := 0, locals := 0 } : Room).cells ({ frames := 0, cells := 0, slots := 0, locals := 0 } : Room).slots) := by
  refine MetFree.of_bodySF (plainFor_of_name pn_1) hisR ?_
  intro p e s m args below meth c s₁ Bd hml0 hP hK
  obtain ⟨rfl, hZ, hh⟩ := hP
  have hx := Bd.exec
  have hby := Bd.bytes
  have hml : c.maxLocals = 4 := hml0
  have hown : s.vm.findClass "com/example/attestry/attestry/BetaMixture$Beta" = some m.cls := findClass_of_methodNamed Bd.named
  have hnm := (name_of_methodNamed Bd.named Bd.method).1
  have X0 : Stand p l e ({ frames := 0, cells := 0, slots := 0, locals := 0 } : Room) s m #[(.ref a0), (.int p1), (.double d2)] below meth c s₁ [] 0 0 := Stand.of_body Bd
  have e0 : s₁.heap = h0 := by rw [← hh, Bd.state]; rfl
  have N0 := Fr.nil n0
  have pre0 : ∀ t, Steps p.tables e below (s₁.setTop (mkF m 0 #[.val (.ref a0), .val (.int p1), .val (.double d2), .second] [])) t → Steps p.tables e below (s₁.setTop (entryFrame m #[(.ref a0), (.int p1), (.double d2)] 4)) t := fun t kt => castTop (ef_4 m a0 p1 d2) kt
  have pre17 : ∀ t, Steps p.tables e below (s₁.setTop (mkF m 1 #[.val (.ref a0), .val (.int p1), .val (.double d2), .second] [(.ref a0)])) t → Steps p.tables e below (s₁.setTop (entryFrame m #[(.ref a0), (.int p1), (.double d2)] 4)) t := fun t kt => by
    refine pre0 _ ?_
    show Steps p.tables e below (s₁.setTop (mkF m 0 #[.val (.ref a0), .val (.int p1), .val (.double d2), .second] [])) _
    refine XS.aloadN X0.here hx rfl (hb hby d4_0) rfl rfl ?_
    show Steps p.tables e below (s₁.setTop (mkF m 1 #[.val (.ref a0), .val (.int p1), .val (.double d2), .second] [(.ref a0)])) _
    exact kt
  obtain ⟨T18, X18, e18, st18⟩ := getF X0 hx hZ hown (host := "") (Or.inl (hw _ (List.mem_of_getElem? (i := 20) rfl))) Via.refl e0 F_a (g := (mkF m 1 #[.val (.ref a0), .val (.int p1), .val (.double d2), .second] [(.ref a0)])) rfl rfl (hb hby d4_1)
  have pre18 : ∀ t, Steps p.tables e below (T18.setTop (mkF m 4 #[.val (.ref a0), .val (.int p1), .val (.double d2), .second] [(.double wa)])) t → Steps p.tables e below (s₁.setTop (entryFrame m #[(.ref a0), (.int p1), (.double d2)] 4)) t := fun t kt => pre17 _ (st18 t kt)
  have pre19 : ∀ t, Steps p.tables e below (T18.setTop (mkF m 7 #[.val (.ref a0), .val (.int p1), .val (.double d2), .second] [(.ref a0), (.double (FP.dadd wa d2))])) t → Steps p.tables e below (s₁.setTop (entryFrame m #[(.ref a0), (.int p1), (.double d2)] 4)) t := fun t kt => by
    refine pre18 _ ?_
    show Steps p.tables e below (T18.setTop (mkF m 4 #[.val (.ref a0), .val (.int p1), .val (.double d2), .second] [(.double wa)])) _
    refine XS.dloadN X18.here hx rfl (hb hby d4_4) rfl ?_
    show Steps p.tables e below (T18.setTop (mkF m 5 #[.val (.ref a0), .val (.int p1), .val (.double d2), .second] [(.double d2), (.double wa)])) _
    refine XS.daddS X18.here hx rfl (hb hby d4_5) rfl m1 (v := (FP.dadd wa d2)) rfl ?_
    show Steps p.tables e below (T18.setTop (mkF m 6 #[.val (.ref a0), .val (.int p1), .val (.double d2), .second] [(.double (FP.dadd wa d2))])) _
    refine XS.aloadN X18.here hx rfl (hb hby d4_6) rfl rfl ?_
    show Steps p.tables e below (T18.setTop (mkF m 7 #[.val (.ref a0), .val (.int p1), .val (.double d2), .second] [(.ref a0), (.double (FP.dadd wa d2))])) _
    exact kt
  obtain ⟨T20, X20, e20, st20⟩ := getF X18 hx hZ hown (host := "") (Or.inl (hw _ (List.mem_of_getElem? (i := 20) rfl))) Via.refl e18 F_a (g := (mkF m 7 #[.val (.ref a0), .val (.int p1), .val (.double d2), .second] [(.ref a0), (.double (FP.dadd wa d2))])) rfl rfl (hb hby d4_7)
  have pre20 : ∀ t, Steps p.tables e below (T20.setTop (mkF m 10 #[.val (.ref a0), .val (.int p1), .val (.double d2), .second] [(.double wa), (.double (FP.dadd wa d2))])) t → Steps p.tables e below (s₁.setTop (entryFrame m #[(.ref a0), (.int p1), (.double d2)] 4)) t := fun t kt => pre19 _ (st20 t kt)
  have pre21 : ∀ t, Steps p.tables e below (T20.setTop (mkF m 11 #[.val (.ref a0), .val (.int p1), .val (.double d2), .second] [(.ref a0), (.double wa), (.double (FP.dadd wa d2))])) t → Steps p.tables e below (s₁.setTop (entryFrame m #[(.ref a0), (.int p1), (.double d2)] 4)) t := fun t kt => by
    refine pre20 _ ?_
    show Steps p.tables e below (T20.setTop (mkF m 10 #[.val (.ref a0), .val (.int p1), .val (.double d2), .second] [(.double wa), (.double (FP.dadd wa d2))])) _
    refine XS.aloadN X20.here hx rfl (hb hby d4_10) rfl rfl ?_
    show Steps p.tables e below (T20.setTop (mkF m 11 #[.val (.ref a0), .val (.int p1), .val (.double d2), .second] [(.ref a0), (.double wa), (.double (FP.dadd wa d2))])) _
    exact kt
  obtain ⟨T22, X22, e22, st22⟩ := getF X20 hx hZ hown (host := "") (Or.inl (hw _ (List.mem_of_getElem? (i := 22) rfl))) Via.refl e20 F_b (g := (mkF m 11 #[.val (.ref a0), .val (.int p1), .val (.double d2), .second] [(.ref a0), (.double wa), (.double (FP.dadd wa d2))])) rfl rfl (hb hby d4_11)
  have pre22 : ∀ t, Steps p.tables e below (T22.setTop (mkF m 14 #[.val (.ref a0), .val (.int p1), .val (.double d2), .second] [(.double wb), (.double wa), (.double (FP.dadd wa d2))])) t → Steps p.tables e below (s₁.setTop (entryFrame m #[(.ref a0), (.int p1), (.double d2)] 4)) t := fun t kt => pre21 _ (st22 t kt)
  have pre23 : ∀ t, Steps p.tables e below (T22.setTop (mkF m 19 #[.val (.ref a0), .val (.int p1), .val (.double d2), .second] [(.double (FP.ddiv (FP.dadd wa d2) (FP.dadd (FP.dadd wa wb) (FP.i2d p1))))])) t → Steps p.tables e below (s₁.setTop (entryFrame m #[(.ref a0), (.int p1), (.double d2)] 4)) t := fun t kt => by
    refine pre22 _ ?_
    show Steps p.tables e below (T22.setTop (mkF m 14 #[.val (.ref a0), .val (.int p1), .val (.double d2), .second] [(.double wb), (.double wa), (.double (FP.dadd wa d2))])) _
    refine XS.daddS X22.here hx rfl (hb hby d4_14) rfl m2 (v := (FP.dadd wa wb)) rfl ?_
    show Steps p.tables e below (T22.setTop (mkF m 15 #[.val (.ref a0), .val (.int p1), .val (.double d2), .second] [(.double (FP.dadd wa wb)), (.double (FP.dadd wa d2))])) _
    refine XS.iloadN X22.here hx rfl (hb hby d4_15) rfl ?_
    show Steps p.tables e below (T22.setTop (mkF m 16 #[.val (.ref a0), .val (.int p1), .val (.double d2), .second] [(.int p1), (.double (FP.dadd wa wb)), (.double (FP.dadd wa d2))])) _
    refine XS.i2dS X22.here hx rfl (hb hby d4_16) rfl (v := FP.i2d p1) rfl ?_
    show Steps p.tables e below (T22.setTop (mkF m 17 #[.val (.ref a0), .val (.int p1), .val (.double d2), .second] [(.double (FP.i2d p1)), (.double (FP.dadd wa wb)), (.double (FP.dadd wa d2))])) _
    refine XS.daddS X22.here hx rfl (hb hby d4_17) rfl m3 (v := (FP.dadd (FP.dadd wa wb) (FP.i2d p1))) rfl ?_
    show Steps p.tables e below (T22.setTop (mkF m 18 #[.val (.ref a0), .val (.int p1), .val (.double d2), .second] [(.double (FP.dadd (FP.dadd wa wb) (FP.i2d p1))), (.double (FP.dadd wa d2))])) _
    refine XS.ddivS X22.here hx rfl (hb hby d4_18) rfl m4 (v := (FP.ddiv (FP.dadd wa d2) (FP.dadd (FP.dadd wa wb) (FP.i2d p1)))) rfl ?_
    show Steps p.tables e below (T22.setTop (mkF m 19 #[.val (.ref a0), .val (.int p1), .val (.double d2), .second] [(.double (FP.ddiv (FP.dadd wa d2) (FP.dadd (FP.dadd wa wb) (FP.i2d p1))))])) _
    exact kt
  obtain ⟨fs, hr, hrun, hended, hW, hsame⟩ := X22.leave (v := some (.double (FP.ddiv (FP.dadd wa d2) (FP.dadd (FP.dadd wa wb) (FP.i2d p1))))) (fun h => by rw [Bd.returns] at h; cases h)
  refine ⟨_, _, pre23 _ ?_, hrun, hended, _, _, rfl, ?_, ⟨_, rfl⟩, hW, hsame.mono (by decide) (by decide)⟩
  · show Steps p.tables e below (T22.setTop (mkF m 19 #[.val (.ref a0), .val (.int p1), .val (.double d2), .second] [(.double (FP.ddiv (FP.dadd wa d2) (FP.dadd (FP.dadd wa wb) (FP.i2d p1))))])) _
    jvm_step X22.here [X22.here.top, hx, (hb hby d4_19), X22.method', Bd.returns, narrow]
    first | (intro acts; rw [hr _ acts rfl rfl rfl]) | rw [hr _ _ rfl rfl rfl]
    exact Steps.refl _
  · show Q4 Z a0 p1 d2 wa wb h0 n0 _ T22.heap _
    rw [e22]
    exact ⟨rfl, N0, rfl⟩
theorem own_E (x : Int64) (h0 : 0 ≤ x.toInt) (h1 : x.toInt ≤ 2 ^ 53) : Fl.Eig x.toInt.toNat (FP.ddiv (FP.l2d x) (4620693217682128896 : UInt64)) := by
  by_cases h : x.toInt = 0
  · have : x = 0 := Int64.toInt_inj.mp (by rw [h]; rfl)
    subst this
    exact ⟨0, FP.Core.b64.qmin, by decide +kernel, by rw [show (0 : Int64).toInt.toNat = 0 from rfl, Nat.zero_mul, Nat.zero_mul]⟩
  · refine Fl.own_div8 (by omega) ?_
    have := FP.Core.l2d_int (a := x) (by omega)
    rw [show x.toInt = ((x.toInt.toNat : Nat) : Int) by omega] at this
    exact this
theorem own_gt {a : UInt64} {i : Nat} (h : Fl.Eig i a) (hi : 0 < i) : (0 : Int32) < (cmpValue (FP.dcmp a FP.dconst0) .l) := by
  have e : FP.dcmp a FP.dconst0 = some .gt := Fl.own_eig_zval h hi
  rw [e]; decide
theorem own_no {a : UInt64} {i : Nat} (h : Fl.Eig i a) : Jvm.Free.Fl.NoNaN64 a := Jvm.Free.Fl.val64_no.mpr (Fl.own_eig_nn h)
theorem own_law (ai bi si : Int64) (nn : Int32) (a1 : 0 < ai.toInt) (a2 : ai.toInt ≤ 2 ^ 30) (b1 : 0 < bi.toInt) (b2 : bi.toInt ≤ 2 ^ 30) (n1 : 0 ≤ nn.toInt) (s1 : 0 ≤ si.toInt) (s2 : si.toInt ≤ 8 * nn.toInt) :
    (Jvm.Free.Fl.NoNaN64 (FP.ddiv (FP.l2d ai) (4620693217682128896 : UInt64)) ∧ Jvm.Free.Fl.NoNaN64 (FP.ddiv (FP.l2d bi) (4620693217682128896 : UInt64)) ∧ Jvm.Free.Fl.NoNaN64 (FP.ddiv (FP.l2d si) (4620693217682128896 : UInt64))) ∧ (0 : Int32) < (cmpValue (FP.dcmp (FP.ddiv (FP.l2d ai) (4620693217682128896 : UInt64)) FP.dconst0) .l) ∧ (0 : Int32) < (cmpValue (FP.dcmp (FP.ddiv (FP.l2d bi) (4620693217682128896 : UInt64)) FP.dconst0) .l) ∧ Jvm.Free.Fl.NoNaN64 (FP.dadd (FP.ddiv (FP.l2d ai) (4620693217682128896 : UInt64)) (FP.ddiv (FP.l2d bi) (4620693217682128896 : UInt64))) ∧ (cmpValue (FP.dcmp (FP.dadd (FP.ddiv (FP.l2d ai) (4620693217682128896 : UInt64)) (FP.ddiv (FP.l2d bi) (4620693217682128896 : UInt64))) (9218868437227405312 : UInt64)) .g) < (0 : Int32) ∧
    Jvm.Free.Fl.NoNaN64 (FP.dadd (FP.ddiv (FP.l2d ai) (4620693217682128896 : UInt64)) (FP.ddiv (FP.l2d si) (4620693217682128896 : UInt64))) ∧ Jvm.Free.Fl.NoNaN64 (FP.dadd (FP.dadd (FP.ddiv (FP.l2d ai) (4620693217682128896 : UInt64)) (FP.ddiv (FP.l2d bi) (4620693217682128896 : UInt64))) (FP.i2d nn)) ∧ Jvm.Free.Fl.NoNaN64 (FP.ddiv (FP.dadd (FP.ddiv (FP.l2d ai) (4620693217682128896 : UInt64)) (FP.ddiv (FP.l2d si) (4620693217682128896 : UInt64))) (FP.dadd (FP.dadd (FP.ddiv (FP.l2d ai) (4620693217682128896 : UInt64)) (FP.ddiv (FP.l2d bi) (4620693217682128896 : UInt64))) (FP.i2d nn))) ∧ Jvm.Free.Fl.NoNaN64 (FP.ddiv (FP.l2d (ai + si)) (FP.l2d ((ai + bi) + ((8 : Int64) * (nn.toInt64))))) ∧ (cmpValue (FP.dcmp (FP.ddiv (FP.dadd (FP.ddiv (FP.l2d ai) (4620693217682128896 : UInt64)) (FP.ddiv (FP.l2d si) (4620693217682128896 : UInt64))) (FP.dadd (FP.dadd (FP.ddiv (FP.l2d ai) (4620693217682128896 : UInt64)) (FP.ddiv (FP.l2d bi) (4620693217682128896 : UInt64))) (FP.i2d nn))) (FP.ddiv (FP.l2d (ai + si)) (FP.l2d ((ai + bi) + ((8 : Int64) * (nn.toInt64)))))) .l) = (0 : Int32) := by
  have nl := nn.toInt_lt
  have EA := own_E ai (by omega) (by omega)
  have EB := own_E bi (by omega) (by omega)
  have ES := own_E si (by omega) (by omega)
  have EN := Fl.own_i2d n1
  have EAB := Fl.own_add EA EB (by omega)
  have EAS := Fl.own_add EA ES (by omega)
  have EABN := Fl.own_add EAB EN (by omega)
  have k8 : (8 : Int64).toInt = 8 := by decide
  have en := Int32.toInt_toInt64 nn
  have m8 : ((8 : Int64) * nn.toInt64).toInt = 8 * nn.toInt := by rw [Jvm.Kit.i64_mul (by rw [k8, en]; omega) (by rw [k8, en]; omega), k8, en]
  have t1 : (ai + si).toInt = ai.toInt + si.toInt := Jvm.Kit.i64_add (by omega) (by omega)
  have t2 : (ai + bi).toInt = ai.toInt + bi.toInt := Jvm.Kit.i64_add (by omega) (by omega)
  have t3 : ((ai + bi) + ((8 : Int64) * nn.toInt64)).toInt = ai.toInt + bi.toInt + 8 * nn.toInt := by rw [Jvm.Kit.i64_add (by omega) (by omega), t2, m8]
  have q8 := Fl.own_quot8 EAS EABN (by omega)
  obtain ⟨s, hs, qw⟩ := Fl.own_quot (FP.Core.l2d_int (a := ai + si) (by omega)) (FP.Core.l2d_int (a := (ai + bi) + ((8 : Int64) * nn.toInt64)) (by omega)) (by omega)
  have hs' : s = false := by rw [hs (by omega)]; exact decide_eq_false (by omega)
  rw [hs', show (ai + si).toInt.natAbs = ai.toInt.toNat + si.toInt.toNat by omega, show ((ai + bi) + ((8 : Int64) * nn.toInt64)).toInt.natAbs = ai.toInt.toNat + bi.toInt.toNat + 8 * nn.toInt.toNat by omega] at qw
  have hng : FP.Core.val64 (FP.ddiv (FP.dadd (FP.ddiv (FP.l2d ai) (4620693217682128896 : UInt64)) (FP.ddiv (FP.l2d si) (4620693217682128896 : UInt64))) (FP.dadd (FP.dadd (FP.ddiv (FP.l2d ai) (4620693217682128896 : UInt64)) (FP.ddiv (FP.l2d bi) (4620693217682128896 : UInt64))) (FP.i2d nn))) ≠ .nan := by
    show FP.Core.val64 (FP.Core.ddiv _ _) ≠ .nan
    rw [q8]; exact FP.Core.roundRatio_ne_nan _ _ _ _ _
  have hnw : FP.Core.val64 (FP.ddiv (FP.l2d (ai + si)) (FP.l2d ((ai + bi) + ((8 : Int64) * (nn.toInt64))))) ≠ .nan := by
    show FP.Core.val64 (FP.Core.ddiv _ _) ≠ .nan
    rw [qw]; exact FP.Core.roundRatio_ne_nan _ _ _ _ _
  have hc : FP.dcmp (FP.ddiv (FP.dadd (FP.ddiv (FP.l2d ai) (4620693217682128896 : UInt64)) (FP.ddiv (FP.l2d si) (4620693217682128896 : UInt64))) (FP.dadd (FP.dadd (FP.ddiv (FP.l2d ai) (4620693217682128896 : UInt64)) (FP.ddiv (FP.l2d bi) (4620693217682128896 : UInt64))) (FP.i2d nn))) (FP.ddiv (FP.l2d (ai + si)) (FP.l2d ((ai + bi) + ((8 : Int64) * (nn.toInt64))))) = some .eq := by
    show FP.Core.order (FP.Core.val64 (FP.Core.ddiv _ _)) (FP.Core.val64 (FP.Core.ddiv _ _)) = _
    rw [q8, qw]
    exact FP.Core.order_self (FP.Core.roundRatio_ne_nan _ _ _ _ _)
  refine ⟨⟨own_no EA, own_no EB, own_no ES⟩, own_gt EA (by omega), own_gt EB (by omega), own_no EAB, ?_, own_no EAS, own_no EABN, Jvm.Free.Fl.val64_no.mpr hng, Jvm.Free.Fl.val64_no.mpr hnw, ?_⟩
  · rw [dcmp_pinf (Fl.own_eig_fin EAB)]; decide
  · rw [hc]; decide
theorem own_a (x : Int32) : 0 < ((x &&& (1073741823 : Int32)).toInt64 + (1 : Int64)).toInt ∧ ((x &&& (1073741823 : Int32)).toInt64 + (1 : Int64)).toInt ≤ 2 ^ 30 := by
  have e : (x &&& (1073741823 : Int32)).toInt = x.toInt % 2 ^ 30 := Jvm.Kit.i32_mask x 1073741823 (k := 30) (by decide) (by decide)
  have e2 := Int32.toInt_toInt64 (x &&& (1073741823 : Int32))
  have k1 : (1 : Int64).toInt = 1 := by decide
  rw [Jvm.Kit.i64_add (by omega) (by omega), e2, e, k1]; omega
theorem own_n (x : Int32) : 0 ≤ (x &&& (2147483647 : Int32)).toInt := by
  have e : (x &&& (2147483647 : Int32)).toInt = x.toInt % 2 ^ 31 := Jvm.Kit.i32_mask x 2147483647 (k := 31) (by decide) (by decide)
  omega
theorem own_m (nn : Int32) (h : 0 ≤ nn.toInt) : (((8 : Int64) * nn.toInt64) + (1 : Int64)).toInt = 8 * nn.toInt + 1 := by
  have nl := nn.toInt_lt
  have k8 : (8 : Int64).toInt = 8 := by decide
  have k1 : (1 : Int64).toInt = 1 := by decide
  have en := Int32.toInt_toInt64 nn
  have m8 : ((8 : Int64) * nn.toInt64).toInt = 8 * nn.toInt := by rw [Jvm.Kit.i64_mul (by rw [k8, en]; omega) (by rw [k8, en]; omega), k8, en]
  rw [Jvm.Kit.i64_add (by omega) (by omega), m8, k1]
theorem own_s (c : Int64) (m : Int64) (q : Int) (hm : m.toInt = q) (hq : 0 < q) : 0 ≤ ((c &&& (9223372036854775807 : Int64)) - ((c &&& (9223372036854775807 : Int64)) / m) * m).toInt ∧ ((c &&& (9223372036854775807 : Int64)) - ((c &&& (9223372036854775807 : Int64)) / m) * m).toInt < q := by
  have e : (c &&& (9223372036854775807 : Int64)).toInt = c.toInt % 2 ^ 63 := Jvm.Kit.i64_mask c 9223372036854775807 (k := 63) (by decide) (by decide)
  rw [Jvm.Kit.i64_rem_nonneg (by omega), hm]
  exact ⟨Int.emod_nonneg _ (by omega), Int.emod_lt_of_pos _ hq⟩
theorem pn_0 : plainName "com/example/attestry/attestry/BetaPosteriorMeanPinLaw" = true := by first | (simp [plainName, overriddenIn]; done) | decide +kernel
theorem ef_0 (m : MethodId) (x0 : Int32) (x1 : Int32) (x2 : Int32) (x3 : Int64) : entryFrame m #[(.int x0), (.int x1), (.int x2), (.long x3)] maxLocals = mkF m 0 #[.val (.int x0), .val (.int x1), .val (.int x2), .val (.long x3), .second, .unset, .unset, .unset, .unset, .unset, .unset, .unset, .unset, .unset, .unset, .unset, .unset] [] := by first | (simp [entryFrame, mkF, argsToLocals, Value.category, maxLocals]; done) | rfl
def Q0 (xv : Int32) (yv : Int32) (n0v : Int32) (sv : Int64) (h0 : Heap) (n0 : Nat) (v : Option Value) (h : Heap) (L : List Loc) : Prop := v = some (.int (1 : Int32)) ∧ Fr n0 L
set_option maxRecDepth 65536 in
set_option maxHeartbeats 40000000 in
theorem rm0 (l : Launch) (Z : State) (aZ : Array Value) (hw : ∀ d ∈ tables_1, d.before aZ Z = true) (ws : List Jvm.Cond) (xv : Int32) (yv : Int32) (n0v : Int32) (sv : Int64)  (h0 : Heap) (n0 : Nat) (Z0 : n0 ≤ h0.size)  :
    MetFree l x (head1 (Jvm.Cond.code x code maxLocals ret :: ws) room_1) (fun a U => a = #[(.int xv), (.int yv), (.int n0v), (.long sv)] ∧ Z.Warmed39 U.vm ∧ U.heap = h0) (fun _ _ _ _ _ => True) (fun _ U oc U' => ∃ v L, oc = .returned v ∧ Q0 xv yv n0v sv h0 n0 v U'.heap L ∧ FrameEnd U oc U' L room_1.cells room_1.slots) := by
  refine MetFree.of_bodySF (plainFor_of_name pn_0) hisR ?_
  intro p e s m args below meth c s₁ Bd hml0 hP hK
  obtain ⟨rfl, hZ, hh⟩ := hP
  have hx := Bd.exec
  have hby := Bd.bytes
  have hml : c.maxLocals = 17 := hml0
  have hown : s.vm.findClass "com/example/attestry/attestry/BetaPosteriorMeanPinLaw" = some m.cls := findClass_of_methodNamed Bd.named
  have hnm := (name_of_methodNamed Bd.named Bd.method).1
  have X0 : Stand p l e room_1 s m #[(.int xv), (.int yv), (.int n0v), (.long sv)] below meth c s₁ [] 0 0 := Stand.of_body Bd
  have e0 : s₁.heap = h0 := by rw [← hh, Bd.state]; rfl
  have N0 := Fr.nil n0
  have pre0 : ∀ t, Steps p.tables e below (s₁.setTop (mkF m 0 #[.val (.int xv), .val (.int yv), .val (.int n0v), .val (.long sv), .second, .unset, .unset, .unset, .unset, .unset, .unset, .unset, .unset, .unset, .unset, .unset, .unset] [])) t → Steps p.tables e below (s₁.setTop (entryFrame m #[(.int xv), (.int yv), (.int n0v), (.long sv)] maxLocals)) t := fun t kt => castTop (ef_0 m xv yv n0v sv) kt
  have pre24 : ∀ t, Steps p.tables e below (s₁.setTop (mkF m 18 #[.val (.int xv), .val (.int yv), .val (.int n0v), .val (.long sv), .second, .val (.long (((xv &&& (1073741823 : Int32)).toInt64) + (1 : Int64))), .second, .val (.long (((yv &&& (1073741823 : Int32)).toInt64) + (1 : Int64))), .second, .unset, .unset, .unset, .unset, .unset, .unset, .unset, .unset] [])) t → Steps p.tables e below (s₁.setTop (entryFrame m #[(.int xv), (.int yv), (.int n0v), (.long sv)] maxLocals)) t := fun t kt => by
    refine pre0 _ ?_
    show Steps p.tables e below (s₁.setTop (mkF m 0 #[.val (.int xv), .val (.int yv), .val (.int n0v), .val (.long sv), .second, .unset, .unset, .unset, .unset, .unset, .unset, .unset, .unset, .unset, .unset, .unset, .unset] [])) _
    refine XS.iloadN X0.here hx rfl (hb hby at_0) rfl ?_
    show Steps p.tables e below (s₁.setTop (mkF m 1 #[.val (.int xv), .val (.int yv), .val (.int n0v), .val (.long sv), .second, .unset, .unset, .unset, .unset, .unset, .unset, .unset, .unset, .unset, .unset, .unset, .unset] [(.int xv)])) _
    refine X0.ldcInt hx hown (mvT hZ (hw _ (List.mem_of_getElem? (i := 0) rfl))) (g := (mkF m 1 #[.val (.int xv), .val (.int yv), .val (.int n0v), .val (.long sv), .second, .unset, .unset, .unset, .unset, .unset, .unset, .unset, .unset, .unset, .unset, .unset, .unset] [(.int xv)])) rfl (hb hby at_1) _ ?_
    show Steps p.tables e below (s₁.setTop (mkF m 3 #[.val (.int xv), .val (.int yv), .val (.int n0v), .val (.long sv), .second, .unset, .unset, .unset, .unset, .unset, .unset, .unset, .unset, .unset, .unset, .unset, .unset] [(.int (1073741823 : Int32)), (.int xv)])) _
    refine XS.iand X0.here hx rfl (hb hby at_3) rfl ?_
    show Steps p.tables e below (s₁.setTop (mkF m 4 #[.val (.int xv), .val (.int yv), .val (.int n0v), .val (.long sv), .second, .unset, .unset, .unset, .unset, .unset, .unset, .unset, .unset, .unset, .unset, .unset, .unset] [(.int (xv &&& (1073741823 : Int32)))])) _
    refine XS.i2l X0.here hx rfl (hb hby at_4) rfl ?_
    show Steps p.tables e below (s₁.setTop (mkF m 5 #[.val (.int xv), .val (.int yv), .val (.int n0v), .val (.long sv), .second, .unset, .unset, .unset, .unset, .unset, .unset, .unset, .unset, .unset, .unset, .unset, .unset] [(.long ((xv &&& (1073741823 : Int32)).toInt64))])) _
    refine XS.lconst X0.here hx rfl (hb hby at_5) ?_
    show Steps p.tables e below (s₁.setTop (mkF m 6 #[.val (.int xv), .val (.int yv), .val (.int n0v), .val (.long sv), .second, .unset, .unset, .unset, .unset, .unset, .unset, .unset, .unset, .unset, .unset, .unset, .unset] [(.long (1 : Int64)), (.long ((xv &&& (1073741823 : Int32)).toInt64))])) _
    refine XS.ladd X0.here hx rfl (hb hby at_6) rfl ?_
    show Steps p.tables e below (s₁.setTop (mkF m 7 #[.val (.int xv), .val (.int yv), .val (.int n0v), .val (.long sv), .second, .unset, .unset, .unset, .unset, .unset, .unset, .unset, .unset, .unset, .unset, .unset, .unset] [(.long (((xv &&& (1073741823 : Int32)).toInt64) + (1 : Int64)))])) _
    refine XS.lstore X0.here hx rfl (hb hby at_7) rfl (l' := #[.val (.int xv), .val (.int yv), .val (.int n0v), .val (.long sv), .second, .val (.long (((xv &&& (1073741823 : Int32)).toInt64) + (1 : Int64))), .second, .unset, .unset, .unset, .unset, .unset, .unset, .unset, .unset, .unset, .unset]) rfl ?_
    show Steps p.tables e below (s₁.setTop (mkF m 9 #[.val (.int xv), .val (.int yv), .val (.int n0v), .val (.long sv), .second, .val (.long (((xv &&& (1073741823 : Int32)).toInt64) + (1 : Int64))), .second, .unset, .unset, .unset, .unset, .unset, .unset, .unset, .unset, .unset, .unset] [])) _
    refine XS.iloadN X0.here hx rfl (hb hby at_9) rfl ?_
    show Steps p.tables e below (s₁.setTop (mkF m 10 #[.val (.int xv), .val (.int yv), .val (.int n0v), .val (.long sv), .second, .val (.long (((xv &&& (1073741823 : Int32)).toInt64) + (1 : Int64))), .second, .unset, .unset, .unset, .unset, .unset, .unset, .unset, .unset, .unset, .unset] [(.int yv)])) _
    refine X0.ldcInt hx hown (mvT hZ (hw _ (List.mem_of_getElem? (i := 0) rfl))) (g := (mkF m 10 #[.val (.int xv), .val (.int yv), .val (.int n0v), .val (.long sv), .second, .val (.long (((xv &&& (1073741823 : Int32)).toInt64) + (1 : Int64))), .second, .unset, .unset, .unset, .unset, .unset, .unset, .unset, .unset, .unset, .unset] [(.int yv)])) rfl (hb hby at_10) _ ?_
    show Steps p.tables e below (s₁.setTop (mkF m 12 #[.val (.int xv), .val (.int yv), .val (.int n0v), .val (.long sv), .second, .val (.long (((xv &&& (1073741823 : Int32)).toInt64) + (1 : Int64))), .second, .unset, .unset, .unset, .unset, .unset, .unset, .unset, .unset, .unset, .unset] [(.int (1073741823 : Int32)), (.int yv)])) _
    refine XS.iand X0.here hx rfl (hb hby at_12) rfl ?_
    show Steps p.tables e below (s₁.setTop (mkF m 13 #[.val (.int xv), .val (.int yv), .val (.int n0v), .val (.long sv), .second, .val (.long (((xv &&& (1073741823 : Int32)).toInt64) + (1 : Int64))), .second, .unset, .unset, .unset, .unset, .unset, .unset, .unset, .unset, .unset, .unset] [(.int (yv &&& (1073741823 : Int32)))])) _
    refine XS.i2l X0.here hx rfl (hb hby at_13) rfl ?_
    show Steps p.tables e below (s₁.setTop (mkF m 14 #[.val (.int xv), .val (.int yv), .val (.int n0v), .val (.long sv), .second, .val (.long (((xv &&& (1073741823 : Int32)).toInt64) + (1 : Int64))), .second, .unset, .unset, .unset, .unset, .unset, .unset, .unset, .unset, .unset, .unset] [(.long ((yv &&& (1073741823 : Int32)).toInt64))])) _
    refine XS.lconst X0.here hx rfl (hb hby at_14) ?_
    show Steps p.tables e below (s₁.setTop (mkF m 15 #[.val (.int xv), .val (.int yv), .val (.int n0v), .val (.long sv), .second, .val (.long (((xv &&& (1073741823 : Int32)).toInt64) + (1 : Int64))), .second, .unset, .unset, .unset, .unset, .unset, .unset, .unset, .unset, .unset, .unset] [(.long (1 : Int64)), (.long ((yv &&& (1073741823 : Int32)).toInt64))])) _
    refine XS.ladd X0.here hx rfl (hb hby at_15) rfl ?_
    show Steps p.tables e below (s₁.setTop (mkF m 16 #[.val (.int xv), .val (.int yv), .val (.int n0v), .val (.long sv), .second, .val (.long (((xv &&& (1073741823 : Int32)).toInt64) + (1 : Int64))), .second, .unset, .unset, .unset, .unset, .unset, .unset, .unset, .unset, .unset, .unset] [(.long (((yv &&& (1073741823 : Int32)).toInt64) + (1 : Int64)))])) _
    refine XS.lstore X0.here hx rfl (hb hby at_16) rfl (l' := #[.val (.int xv), .val (.int yv), .val (.int n0v), .val (.long sv), .second, .val (.long (((xv &&& (1073741823 : Int32)).toInt64) + (1 : Int64))), .second, .val (.long (((yv &&& (1073741823 : Int32)).toInt64) + (1 : Int64))), .second, .unset, .unset, .unset, .unset, .unset, .unset, .unset, .unset]) rfl ?_
    show Steps p.tables e below (s₁.setTop (mkF m 18 #[.val (.int xv), .val (.int yv), .val (.int n0v), .val (.long sv), .second, .val (.long (((xv &&& (1073741823 : Int32)).toInt64) + (1 : Int64))), .second, .val (.long (((yv &&& (1073741823 : Int32)).toInt64) + (1 : Int64))), .second, .unset, .unset, .unset, .unset, .unset, .unset, .unset, .unset] [])) _
    exact kt
  obtain ⟨ai, e_ai⟩ : ∃ z : Int64, z = (((xv &&& (1073741823 : Int32)).toInt64) + (1 : Int64)) := ⟨_, rfl⟩
  have pre25 : ∀ t, Steps p.tables e below (s₁.setTop (mkF m 18 #[.val (.int xv), .val (.int yv), .val (.int n0v), .val (.long sv), .second, .val (.long ai), .second, .val (.long (((yv &&& (1073741823 : Int32)).toInt64) + (1 : Int64))), .second, .unset, .unset, .unset, .unset, .unset, .unset, .unset, .unset] [])) t → Steps p.tables e below (s₁.setTop (entryFrame m #[(.int xv), (.int yv), (.int n0v), (.long sv)] maxLocals)) t := by rw [e_ai]; exact pre24
  obtain ⟨bi, e_bi⟩ : ∃ z : Int64, z = (((yv &&& (1073741823 : Int32)).toInt64) + (1 : Int64)) := ⟨_, rfl⟩
  have pre26 : ∀ t, Steps p.tables e below (s₁.setTop (mkF m 18 #[.val (.int xv), .val (.int yv), .val (.int n0v), .val (.long sv), .second, .val (.long ai), .second, .val (.long bi), .second, .unset, .unset, .unset, .unset, .unset, .unset, .unset, .unset] [])) t → Steps p.tables e below (s₁.setTop (entryFrame m #[(.int xv), (.int yv), (.int n0v), (.long sv)] maxLocals)) t := by rw [e_bi]; exact pre25
  have pre27 : ∀ t, Steps p.tables e below (s₁.setTop (mkF m 24 #[.val (.int xv), .val (.int yv), .val (.int n0v), .val (.long sv), .second, .val (.long ai), .second, .val (.long bi), .second, .val (.int (n0v &&& (2147483647 : Int32))), .unset, .unset, .unset, .unset, .unset, .unset, .unset] [])) t → Steps p.tables e below (s₁.setTop (entryFrame m #[(.int xv), (.int yv), (.int n0v), (.long sv)] maxLocals)) t := fun t kt => by
    refine pre26 _ ?_
    show Steps p.tables e below (s₁.setTop (mkF m 18 #[.val (.int xv), .val (.int yv), .val (.int n0v), .val (.long sv), .second, .val (.long ai), .second, .val (.long bi), .second, .unset, .unset, .unset, .unset, .unset, .unset, .unset, .unset] [])) _
    refine XS.iloadN X0.here hx rfl (hb hby at_18) rfl ?_
    show Steps p.tables e below (s₁.setTop (mkF m 19 #[.val (.int xv), .val (.int yv), .val (.int n0v), .val (.long sv), .second, .val (.long ai), .second, .val (.long bi), .second, .unset, .unset, .unset, .unset, .unset, .unset, .unset, .unset] [(.int n0v)])) _
    refine X0.ldcInt hx hown (mvT hZ (hw _ (List.mem_of_getElem? (i := 1) rfl))) (g := (mkF m 19 #[.val (.int xv), .val (.int yv), .val (.int n0v), .val (.long sv), .second, .val (.long ai), .second, .val (.long bi), .second, .unset, .unset, .unset, .unset, .unset, .unset, .unset, .unset] [(.int n0v)])) rfl (hb hby at_19) _ ?_
    show Steps p.tables e below (s₁.setTop (mkF m 21 #[.val (.int xv), .val (.int yv), .val (.int n0v), .val (.long sv), .second, .val (.long ai), .second, .val (.long bi), .second, .unset, .unset, .unset, .unset, .unset, .unset, .unset, .unset] [(.int (2147483647 : Int32)), (.int n0v)])) _
    refine XS.iand X0.here hx rfl (hb hby at_21) rfl ?_
    show Steps p.tables e below (s₁.setTop (mkF m 22 #[.val (.int xv), .val (.int yv), .val (.int n0v), .val (.long sv), .second, .val (.long ai), .second, .val (.long bi), .second, .unset, .unset, .unset, .unset, .unset, .unset, .unset, .unset] [(.int (n0v &&& (2147483647 : Int32)))])) _
    refine XS.istore X0.here hx rfl (hb hby at_22) rfl (l' := #[.val (.int xv), .val (.int yv), .val (.int n0v), .val (.long sv), .second, .val (.long ai), .second, .val (.long bi), .second, .val (.int (n0v &&& (2147483647 : Int32))), .unset, .unset, .unset, .unset, .unset, .unset, .unset]) rfl ?_
    show Steps p.tables e below (s₁.setTop (mkF m 24 #[.val (.int xv), .val (.int yv), .val (.int n0v), .val (.long sv), .second, .val (.long ai), .second, .val (.long bi), .second, .val (.int (n0v &&& (2147483647 : Int32))), .unset, .unset, .unset, .unset, .unset, .unset, .unset] [])) _
    exact kt
  obtain ⟨nn, e_nn⟩ : ∃ z : Int32, z = (n0v &&& (2147483647 : Int32)) := ⟨_, rfl⟩
  have pre28 : ∀ t, Steps p.tables e below (s₁.setTop (mkF m 24 #[.val (.int xv), .val (.int yv), .val (.int n0v), .val (.long sv), .second, .val (.long ai), .second, .val (.long bi), .second, .val (.int nn), .unset, .unset, .unset, .unset, .unset, .unset, .unset] [])) t → Steps p.tables e below (s₁.setTop (entryFrame m #[(.int xv), (.int yv), (.int n0v), (.long sv)] maxLocals)) t := by rw [e_nn]; exact pre27
  have ha := own_a xv
  rw [← e_ai] at ha
  have hb1 := own_a yv
  rw [← e_bi] at hb1
  have hn1 := own_n n0v
  rw [← e_nn] at hn1
  have hm := own_m nn hn1
  have hmz : (((8 : Int64) * (nn.toInt64)) + (1 : Int64)) ≠ 0 := fun q => by
    rw [q] at hm
    have : (0 : Int64).toInt = 0 := by decide
    omega
  have pre29 : ∀ t, Steps p.tables e below (s₁.setTop (mkF m 41 #[.val (.int xv), .val (.int yv), .val (.int n0v), .val (.long sv), .second, .val (.long ai), .second, .val (.long bi), .second, .val (.int nn), .val (.long ((sv &&& (9223372036854775807 : Int64)) - ((sv &&& (9223372036854775807 : Int64)) / (((8 : Int64) * (nn.toInt64)) + (1 : Int64))) * (((8 : Int64) * (nn.toInt64)) + (1 : Int64)))), .second, .unset, .unset, .unset, .unset, .unset] [])) t → Steps p.tables e below (s₁.setTop (entryFrame m #[(.int xv), (.int yv), (.int n0v), (.long sv)] maxLocals)) t := fun t kt => by
    refine pre28 _ ?_
    show Steps p.tables e below (s₁.setTop (mkF m 24 #[.val (.int xv), .val (.int yv), .val (.int n0v), .val (.long sv), .second, .val (.long ai), .second, .val (.long bi), .second, .val (.int nn), .unset, .unset, .unset, .unset, .unset, .unset, .unset] [])) _
    refine XS.lloadN X0.here hx rfl (hb hby at_24) rfl ?_
    show Steps p.tables e below (s₁.setTop (mkF m 25 #[.val (.int xv), .val (.int yv), .val (.int n0v), .val (.long sv), .second, .val (.long ai), .second, .val (.long bi), .second, .val (.int nn), .unset, .unset, .unset, .unset, .unset, .unset, .unset] [(.long sv)])) _
    refine X0.ldc2Long hx hown (mvT hZ (hw _ (List.mem_of_getElem? (i := 2) rfl))) (g := (mkF m 25 #[.val (.int xv), .val (.int yv), .val (.int n0v), .val (.long sv), .second, .val (.long ai), .second, .val (.long bi), .second, .val (.int nn), .unset, .unset, .unset, .unset, .unset, .unset, .unset] [(.long sv)])) rfl (hb hby at_25) _ ?_
    show Steps p.tables e below (s₁.setTop (mkF m 28 #[.val (.int xv), .val (.int yv), .val (.int n0v), .val (.long sv), .second, .val (.long ai), .second, .val (.long bi), .second, .val (.int nn), .unset, .unset, .unset, .unset, .unset, .unset, .unset] [(.long (9223372036854775807 : Int64)), (.long sv)])) _
    refine XS.land X0.here hx rfl (hb hby at_28) rfl ?_
    show Steps p.tables e below (s₁.setTop (mkF m 29 #[.val (.int xv), .val (.int yv), .val (.int n0v), .val (.long sv), .second, .val (.long ai), .second, .val (.long bi), .second, .val (.int nn), .unset, .unset, .unset, .unset, .unset, .unset, .unset] [(.long (sv &&& (9223372036854775807 : Int64)))])) _
    refine X0.ldc2Long hx hown (mvT hZ (hw _ (List.mem_of_getElem? (i := 3) rfl))) (g := (mkF m 29 #[.val (.int xv), .val (.int yv), .val (.int n0v), .val (.long sv), .second, .val (.long ai), .second, .val (.long bi), .second, .val (.int nn), .unset, .unset, .unset, .unset, .unset, .unset, .unset] [(.long (sv &&& (9223372036854775807 : Int64)))])) rfl (hb hby at_29) _ ?_
    show Steps p.tables e below (s₁.setTop (mkF m 32 #[.val (.int xv), .val (.int yv), .val (.int n0v), .val (.long sv), .second, .val (.long ai), .second, .val (.long bi), .second, .val (.int nn), .unset, .unset, .unset, .unset, .unset, .unset, .unset] [(.long (8 : Int64)), (.long (sv &&& (9223372036854775807 : Int64)))])) _
    refine XS.iload X0.here hx rfl (hb hby at_32) rfl ?_
    show Steps p.tables e below (s₁.setTop (mkF m 34 #[.val (.int xv), .val (.int yv), .val (.int n0v), .val (.long sv), .second, .val (.long ai), .second, .val (.long bi), .second, .val (.int nn), .unset, .unset, .unset, .unset, .unset, .unset, .unset] [(.int nn), (.long (8 : Int64)), (.long (sv &&& (9223372036854775807 : Int64)))])) _
    refine XS.i2l X0.here hx rfl (hb hby at_34) rfl ?_
    show Steps p.tables e below (s₁.setTop (mkF m 35 #[.val (.int xv), .val (.int yv), .val (.int n0v), .val (.long sv), .second, .val (.long ai), .second, .val (.long bi), .second, .val (.int nn), .unset, .unset, .unset, .unset, .unset, .unset, .unset] [(.long (nn.toInt64)), (.long (8 : Int64)), (.long (sv &&& (9223372036854775807 : Int64)))])) _
    refine XS.lmul X0.here hx rfl (hb hby at_35) rfl ?_
    show Steps p.tables e below (s₁.setTop (mkF m 36 #[.val (.int xv), .val (.int yv), .val (.int n0v), .val (.long sv), .second, .val (.long ai), .second, .val (.long bi), .second, .val (.int nn), .unset, .unset, .unset, .unset, .unset, .unset, .unset] [(.long ((8 : Int64) * (nn.toInt64))), (.long (sv &&& (9223372036854775807 : Int64)))])) _
    refine XS.lconst X0.here hx rfl (hb hby at_36) ?_
    show Steps p.tables e below (s₁.setTop (mkF m 37 #[.val (.int xv), .val (.int yv), .val (.int n0v), .val (.long sv), .second, .val (.long ai), .second, .val (.long bi), .second, .val (.int nn), .unset, .unset, .unset, .unset, .unset, .unset, .unset] [(.long (1 : Int64)), (.long ((8 : Int64) * (nn.toInt64))), (.long (sv &&& (9223372036854775807 : Int64)))])) _
    refine XS.ladd X0.here hx rfl (hb hby at_37) rfl ?_
    show Steps p.tables e below (s₁.setTop (mkF m 38 #[.val (.int xv), .val (.int yv), .val (.int n0v), .val (.long sv), .second, .val (.long ai), .second, .val (.long bi), .second, .val (.int nn), .unset, .unset, .unset, .unset, .unset, .unset, .unset] [(.long (((8 : Int64) * (nn.toInt64)) + (1 : Int64))), (.long (sv &&& (9223372036854775807 : Int64)))])) _
    refine XS.lrem X0.here hx rfl (hb hby at_38) rfl hmz ?_
    show Steps p.tables e below (s₁.setTop (mkF m 39 #[.val (.int xv), .val (.int yv), .val (.int n0v), .val (.long sv), .second, .val (.long ai), .second, .val (.long bi), .second, .val (.int nn), .unset, .unset, .unset, .unset, .unset, .unset, .unset] [(.long ((sv &&& (9223372036854775807 : Int64)) - ((sv &&& (9223372036854775807 : Int64)) / (((8 : Int64) * (nn.toInt64)) + (1 : Int64))) * (((8 : Int64) * (nn.toInt64)) + (1 : Int64))))])) _
    refine XS.lstore X0.here hx rfl (hb hby at_39) rfl (l' := #[.val (.int xv), .val (.int yv), .val (.int n0v), .val (.long sv), .second, .val (.long ai), .second, .val (.long bi), .second, .val (.int nn), .val (.long ((sv &&& (9223372036854775807 : Int64)) - ((sv &&& (9223372036854775807 : Int64)) / (((8 : Int64) * (nn.toInt64)) + (1 : Int64))) * (((8 : Int64) * (nn.toInt64)) + (1 : Int64)))), .second, .unset, .unset, .unset, .unset, .unset]) rfl ?_
    show Steps p.tables e below (s₁.setTop (mkF m 41 #[.val (.int xv), .val (.int yv), .val (.int n0v), .val (.long sv), .second, .val (.long ai), .second, .val (.long bi), .second, .val (.int nn), .val (.long ((sv &&& (9223372036854775807 : Int64)) - ((sv &&& (9223372036854775807 : Int64)) / (((8 : Int64) * (nn.toInt64)) + (1 : Int64))) * (((8 : Int64) * (nn.toInt64)) + (1 : Int64)))), .second, .unset, .unset, .unset, .unset, .unset] [])) _
    exact kt
  obtain ⟨si, e_si⟩ : ∃ z : Int64, z = ((sv &&& (9223372036854775807 : Int64)) - ((sv &&& (9223372036854775807 : Int64)) / (((8 : Int64) * (nn.toInt64)) + (1 : Int64))) * (((8 : Int64) * (nn.toInt64)) + (1 : Int64))) := ⟨_, rfl⟩
  have pre30 : ∀ t, Steps p.tables e below (s₁.setTop (mkF m 41 #[.val (.int xv), .val (.int yv), .val (.int n0v), .val (.long sv), .second, .val (.long ai), .second, .val (.long bi), .second, .val (.int nn), .val (.long si), .second, .unset, .unset, .unset, .unset, .unset] [])) t → Steps p.tables e below (s₁.setTop (entryFrame m #[(.int xv), (.int yv), (.int n0v), (.long sv)] maxLocals)) t := by rw [e_si]; exact pre29
  have hs := own_s sv _ _ hm (by omega)
  rw [← e_si] at hs
  have hl := own_law ai bi si nn ha.1 ha.2 hb1.1 hb1.2 hn1 hs.1 (by omega)
  obtain ⟨T32, h32, X32, e32, E32, A32, D32, -, st32⟩ := newO X0 hx hZ hown (hw _ (List.mem_of_getElem? (i := 4) rfl)) (hw _ (List.mem_of_getElem? (i := 5) rfl)) (hw _ (List.mem_of_getElem? (i := 6) rfl)) e0 (g := (mkF m 41 #[.val (.int xv), .val (.int yv), .val (.int n0v), .val (.long sv), .second, .val (.long ai), .second, .val (.long bi), .second, .val (.int nn), .val (.long si), .second, .unset, .unset, .unset, .unset, .unset] [])) rfl (hb hby at_41) (by decide) (by decide)
  obtain ⟨b32, g32⟩ : ∃ z, z = h0.size := ⟨_, rfl⟩
  have g_b32 : n0 ≤ b32 := Nat.le_trans Z0 (Nat.le_of_eq g32.symm)
  have sz_b32 : h0.size ≤ b32 := Nat.le_of_eq g32.symm
  rw [← g32] at A32 D32 st32
  have Zs32 : n0 ≤ h32.size := Nat.le_trans Z0 E32.1
  have K0 := Keep.refl h0 []
  have K32 := K0.ext E32
  have F_a_b32 : Fld Z h32 b32 "com/example/attestry/attestry/BetaMixture$Beta" "a" "D" (.double (0 : UInt64)) := D32 (Or.inr (hw _ (List.mem_of_getElem? (i := 21) rfl))) (ty := .double) (by decide)
  have F_b_b32 : Fld Z h32 b32 "com/example/attestry/attestry/BetaMixture$Beta" "b" "D" (.double (0 : UInt64)) := D32 (Or.inr (hw _ (List.mem_of_getElem? (i := 23) rfl))) (ty := .double) (by decide)
  have pre32 : ∀ t, Steps p.tables e below (T32.setTop (mkF m 44 #[.val (.int xv), .val (.int yv), .val (.int n0v), .val (.long sv), .second, .val (.long ai), .second, .val (.long bi), .second, .val (.int nn), .val (.long si), .second, .unset, .unset, .unset, .unset, .unset] [(.ref b32)])) t → Steps p.tables e below (s₁.setTop (entryFrame m #[(.int xv), (.int yv), (.int n0v), (.long sv)] maxLocals)) t := fun t kt => pre30 _ (st32 t kt)
  have pre33 : ∀ t, Steps p.tables e below (T32.setTop (mkF m 59 #[.val (.int xv), .val (.int yv), .val (.int n0v), .val (.long sv), .second, .val (.long ai), .second, .val (.long bi), .second, .val (.int nn), .val (.long si), .second, .unset, .unset, .unset, .unset, .unset] [(.double (FP.ddiv (FP.l2d bi) (4620693217682128896 : UInt64))), (.double (FP.ddiv (FP.l2d ai) (4620693217682128896 : UInt64))), (.ref b32), (.ref b32)])) t → Steps p.tables e below (s₁.setTop (entryFrame m #[(.int xv), (.int yv), (.int n0v), (.long sv)] maxLocals)) t := fun t kt => by
    refine pre32 _ ?_
    show Steps p.tables e below (T32.setTop (mkF m 44 #[.val (.int xv), .val (.int yv), .val (.int n0v), .val (.long sv), .second, .val (.long ai), .second, .val (.long bi), .second, .val (.int nn), .val (.long si), .second, .unset, .unset, .unset, .unset, .unset] [(.ref b32)])) _
    refine XS.dup X32.here hx rfl (hb hby at_44) rfl rfl ?_
    show Steps p.tables e below (T32.setTop (mkF m 45 #[.val (.int xv), .val (.int yv), .val (.int n0v), .val (.long sv), .second, .val (.long ai), .second, .val (.long bi), .second, .val (.int nn), .val (.long si), .second, .unset, .unset, .unset, .unset, .unset] [(.ref b32), (.ref b32)])) _
    refine XS.lload X32.here hx rfl (hb hby at_45) rfl ?_
    show Steps p.tables e below (T32.setTop (mkF m 47 #[.val (.int xv), .val (.int yv), .val (.int n0v), .val (.long sv), .second, .val (.long ai), .second, .val (.long bi), .second, .val (.int nn), .val (.long si), .second, .unset, .unset, .unset, .unset, .unset] [(.long ai), (.ref b32), (.ref b32)])) _
    refine XS.l2dS X32.here hx rfl (hb hby at_47) rfl (v := FP.l2d ai) rfl ?_
    show Steps p.tables e below (T32.setTop (mkF m 48 #[.val (.int xv), .val (.int yv), .val (.int n0v), .val (.long sv), .second, .val (.long ai), .second, .val (.long bi), .second, .val (.int nn), .val (.long si), .second, .unset, .unset, .unset, .unset, .unset] [(.double (FP.l2d ai)), (.ref b32), (.ref b32)])) _
    refine X32.ldc2DoubleC hx hown (mvT hZ (hw _ (List.mem_of_getElem? (i := 7) rfl))) (g := (mkF m 48 #[.val (.int xv), .val (.int yv), .val (.int n0v), .val (.long sv), .second, .val (.long ai), .second, .val (.long bi), .second, .val (.int nn), .val (.long si), .second, .unset, .unset, .unset, .unset, .unset] [(.double (FP.l2d ai)), (.ref b32), (.ref b32)])) rfl (hb hby at_48) _ ?_
    show Steps p.tables e below (T32.setTop (mkF m 51 #[.val (.int xv), .val (.int yv), .val (.int n0v), .val (.long sv), .second, .val (.long ai), .second, .val (.long bi), .second, .val (.int nn), .val (.long si), .second, .unset, .unset, .unset, .unset, .unset] [(.double (4620693217682128896 : UInt64)), (.double (FP.l2d ai)), (.ref b32), (.ref b32)])) _
    refine XS.ddivS X32.here hx rfl (hb hby at_51) rfl hl.1.1 (v := (FP.ddiv (FP.l2d ai) (4620693217682128896 : UInt64))) rfl ?_
    show Steps p.tables e below (T32.setTop (mkF m 52 #[.val (.int xv), .val (.int yv), .val (.int n0v), .val (.long sv), .second, .val (.long ai), .second, .val (.long bi), .second, .val (.int nn), .val (.long si), .second, .unset, .unset, .unset, .unset, .unset] [(.double (FP.ddiv (FP.l2d ai) (4620693217682128896 : UInt64))), (.ref b32), (.ref b32)])) _
    refine XS.lload X32.here hx rfl (hb hby at_52) rfl ?_
    show Steps p.tables e below (T32.setTop (mkF m 54 #[.val (.int xv), .val (.int yv), .val (.int n0v), .val (.long sv), .second, .val (.long ai), .second, .val (.long bi), .second, .val (.int nn), .val (.long si), .second, .unset, .unset, .unset, .unset, .unset] [(.long bi), (.double (FP.ddiv (FP.l2d ai) (4620693217682128896 : UInt64))), (.ref b32), (.ref b32)])) _
    refine XS.l2dS X32.here hx rfl (hb hby at_54) rfl (v := FP.l2d bi) rfl ?_
    show Steps p.tables e below (T32.setTop (mkF m 55 #[.val (.int xv), .val (.int yv), .val (.int n0v), .val (.long sv), .second, .val (.long ai), .second, .val (.long bi), .second, .val (.int nn), .val (.long si), .second, .unset, .unset, .unset, .unset, .unset] [(.double (FP.l2d bi)), (.double (FP.ddiv (FP.l2d ai) (4620693217682128896 : UInt64))), (.ref b32), (.ref b32)])) _
    refine X32.ldc2DoubleC hx hown (mvT hZ (hw _ (List.mem_of_getElem? (i := 7) rfl))) (g := (mkF m 55 #[.val (.int xv), .val (.int yv), .val (.int n0v), .val (.long sv), .second, .val (.long ai), .second, .val (.long bi), .second, .val (.int nn), .val (.long si), .second, .unset, .unset, .unset, .unset, .unset] [(.double (FP.l2d bi)), (.double (FP.ddiv (FP.l2d ai) (4620693217682128896 : UInt64))), (.ref b32), (.ref b32)])) rfl (hb hby at_55) _ ?_
    show Steps p.tables e below (T32.setTop (mkF m 58 #[.val (.int xv), .val (.int yv), .val (.int n0v), .val (.long sv), .second, .val (.long ai), .second, .val (.long bi), .second, .val (.int nn), .val (.long si), .second, .unset, .unset, .unset, .unset, .unset] [(.double (4620693217682128896 : UInt64)), (.double (FP.l2d bi)), (.double (FP.ddiv (FP.l2d ai) (4620693217682128896 : UInt64))), (.ref b32), (.ref b32)])) _
    refine XS.ddivS X32.here hx rfl (hb hby at_58) rfl hl.1.2.1 (v := (FP.ddiv (FP.l2d bi) (4620693217682128896 : UInt64))) rfl ?_
    show Steps p.tables e below (T32.setTop (mkF m 59 #[.val (.int xv), .val (.int yv), .val (.int n0v), .val (.long sv), .second, .val (.long ai), .second, .val (.long bi), .second, .val (.int nn), .val (.long si), .second, .unset, .unset, .unset, .unset, .unset] [(.double (FP.ddiv (FP.l2d bi) (4620693217682128896 : UInt64))), (.double (FP.ddiv (FP.l2d ai) (4620693217682128896 : UInt64))), (.ref b32), (.ref b32)])) _
    exact kt
  obtain ⟨v34, _, ⟨T34, L34, k34, n34⟩, -, X34, ⟨Lc34, hQ34, l34, y34, z34⟩, st34⟩ := X32.specialBack hx (y := (⟨"com/example/attestry/attestry/BetaMixture$Beta", "<init>", "(DD)V"⟩ : MethodName)) rfl hown (mvT hZ (hw _ (List.mem_of_getElem? (i := 8) rfl))) (mvT hZ (hw _ (List.mem_of_getElem? (i := 9) rfl))) (mvT hZ (hw _ (List.mem_of_getElem? (i := 10) rfl))) (by decide) (backOf (W := 1) (rm1 l Z aZ hw [] b32 (FP.ddiv (FP.l2d ai) (4620693217682128896 : UInt64)) (FP.ddiv (FP.l2d bi) (4620693217682128896 : UInt64))  h32 n0 Zs32 F_a_b32 F_b_b32 A32 g_b32 hl.2.1 hl.2.2.1 hl.2.2.2.1 hl.2.2.2.2.1) hZ (hw _ (List.mem_of_getElem? (i := 10) rfl)) (hw _ (List.mem_of_getElem? (i := 6) rfl)) (by decide) (by decide)) (g := (mkF m 59 #[.val (.int xv), .val (.int yv), .val (.int n0v), .val (.long sv), .second, .val (.long ai), .second, .val (.long bi), .second, .val (.int nn), .val (.long si), .second, .unset, .unset, .unset, .unset, .unset] [(.double (FP.ddiv (FP.l2d bi) (4620693217682128896 : UInt64))), (.double (FP.ddiv (FP.l2d ai) (4620693217682128896 : UInt64))), (.ref b32), (.ref b32)])) rfl (by rw [hml]; rfl) (Steps.refl _) (a := b32) (argsL := [(.double (FP.ddiv (FP.l2d ai) (4620693217682128896 : UInt64))), (.double (FP.ddiv (FP.l2d bi) (4620693217682128896 : UInt64)))]) (rest := [(.ref b32)]) (lenOf pd_0 rfl) rfl (by show 2 * 0 + _ ≤ _; exact Nat.le_of_eq rfl) (hb hby at_59) (fun _ _ => ⟨rfl, e32, (by decide : 1 + 0 ≤ _), (by decide : 2 + 0 ≤ _)⟩)
  dsimp only [Pt.U, Pt.locs, Pt.cells, Pt.slots] at X34 l34 y34 z34 st34 hQ34
  rw [l34, y34, z34] at X34
  clear l34 y34 z34
  obtain ⟨vq34, N34q, Kc34, Fa34, Fb34⟩ := hQ34
  rw [vq34] at st34
  have N34 := Fr.app N0 N34q
  have pre34 : ∀ t, Steps p.tables e below (T34.setTop (mkF m 62 #[.val (.int xv), .val (.int yv), .val (.int n0v), .val (.long sv), .second, .val (.long ai), .second, .val (.long bi), .second, .val (.int nn), .val (.long si), .second, .unset, .unset, .unset, .unset, .unset] [(.ref b32)])) t → Steps p.tables e below (s₁.setTop (entryFrame m #[(.int xv), (.int yv), (.int n0v), (.long sv)] maxLocals)) t := fun t kt => pre33 _ (st34.trans kt)
  have Zs34 : n0 ≤ T34.heap.size := Nat.le_trans Zs32 Kc34.1
  have F34_0 := A32.keep Kc34
  have K34 := K32.trans Kc34 (by intro x hx; simp only [List.mem_cons, List.not_mem_nil, or_false] at hx; rcases hx with rfl <;> first | exact Or.inr sz_b32)
  have pre35 : ∀ t, Steps p.tables e below (T34.setTop (mkF m 75 #[.val (.int xv), .val (.int yv), .val (.int n0v), .val (.long sv), .second, .val (.long ai), .second, .val (.long bi), .second, .val (.int nn), .val (.long si), .second, .val (.ref b32), .unset, .unset, .unset, .unset] [(.double (FP.ddiv (FP.l2d si) (4620693217682128896 : UInt64))), (.int nn), (.ref b32)])) t → Steps p.tables e below (s₁.setTop (entryFrame m #[(.int xv), (.int yv), (.int n0v), (.long sv)] maxLocals)) t := fun t kt => by
    refine pre34 _ ?_
    show Steps p.tables e below (T34.setTop (mkF m 62 #[.val (.int xv), .val (.int yv), .val (.int n0v), .val (.long sv), .second, .val (.long ai), .second, .val (.long bi), .second, .val (.int nn), .val (.long si), .second, .unset, .unset, .unset, .unset, .unset] [(.ref b32)])) _
    refine XS.astore X34.here hx rfl (hb hby at_62) rfl rfl (l' := #[.val (.int xv), .val (.int yv), .val (.int n0v), .val (.long sv), .second, .val (.long ai), .second, .val (.long bi), .second, .val (.int nn), .val (.long si), .second, .val (.ref b32), .unset, .unset, .unset, .unset]) rfl ?_
    show Steps p.tables e below (T34.setTop (mkF m 64 #[.val (.int xv), .val (.int yv), .val (.int n0v), .val (.long sv), .second, .val (.long ai), .second, .val (.long bi), .second, .val (.int nn), .val (.long si), .second, .val (.ref b32), .unset, .unset, .unset, .unset] [])) _
    refine XS.aload X34.here hx rfl (hb hby at_64) rfl rfl ?_
    show Steps p.tables e below (T34.setTop (mkF m 66 #[.val (.int xv), .val (.int yv), .val (.int n0v), .val (.long sv), .second, .val (.long ai), .second, .val (.long bi), .second, .val (.int nn), .val (.long si), .second, .val (.ref b32), .unset, .unset, .unset, .unset] [(.ref b32)])) _
    refine XS.iload X34.here hx rfl (hb hby at_66) rfl ?_
    show Steps p.tables e below (T34.setTop (mkF m 68 #[.val (.int xv), .val (.int yv), .val (.int n0v), .val (.long sv), .second, .val (.long ai), .second, .val (.long bi), .second, .val (.int nn), .val (.long si), .second, .val (.ref b32), .unset, .unset, .unset, .unset] [(.int nn), (.ref b32)])) _
    refine XS.lload X34.here hx rfl (hb hby at_68) rfl ?_
    show Steps p.tables e below (T34.setTop (mkF m 70 #[.val (.int xv), .val (.int yv), .val (.int n0v), .val (.long sv), .second, .val (.long ai), .second, .val (.long bi), .second, .val (.int nn), .val (.long si), .second, .val (.ref b32), .unset, .unset, .unset, .unset] [(.long si), (.int nn), (.ref b32)])) _
    refine XS.l2dS X34.here hx rfl (hb hby at_70) rfl (v := FP.l2d si) rfl ?_
    show Steps p.tables e below (T34.setTop (mkF m 71 #[.val (.int xv), .val (.int yv), .val (.int n0v), .val (.long sv), .second, .val (.long ai), .second, .val (.long bi), .second, .val (.int nn), .val (.long si), .second, .val (.ref b32), .unset, .unset, .unset, .unset] [(.double (FP.l2d si)), (.int nn), (.ref b32)])) _
    refine X34.ldc2DoubleC hx hown (mvT hZ (hw _ (List.mem_of_getElem? (i := 7) rfl))) (g := (mkF m 71 #[.val (.int xv), .val (.int yv), .val (.int n0v), .val (.long sv), .second, .val (.long ai), .second, .val (.long bi), .second, .val (.int nn), .val (.long si), .second, .val (.ref b32), .unset, .unset, .unset, .unset] [(.double (FP.l2d si)), (.int nn), (.ref b32)])) rfl (hb hby at_71) _ ?_
    show Steps p.tables e below (T34.setTop (mkF m 74 #[.val (.int xv), .val (.int yv), .val (.int n0v), .val (.long sv), .second, .val (.long ai), .second, .val (.long bi), .second, .val (.int nn), .val (.long si), .second, .val (.ref b32), .unset, .unset, .unset, .unset] [(.double (4620693217682128896 : UInt64)), (.double (FP.l2d si)), (.int nn), (.ref b32)])) _
    refine XS.ddivS X34.here hx rfl (hb hby at_74) rfl hl.1.2.2 (v := (FP.ddiv (FP.l2d si) (4620693217682128896 : UInt64))) rfl ?_
    show Steps p.tables e below (T34.setTop (mkF m 75 #[.val (.int xv), .val (.int yv), .val (.int n0v), .val (.long sv), .second, .val (.long ai), .second, .val (.long bi), .second, .val (.int nn), .val (.long si), .second, .val (.ref b32), .unset, .unset, .unset, .unset] [(.double (FP.ddiv (FP.l2d si) (4620693217682128896 : UInt64))), (.int nn), (.ref b32)])) _
    exact kt
  obtain ⟨cq36, kq36, q36a, q36b, q36c⟩ := isOf hZ rfl F34_0
  obtain ⟨v36, _, ⟨T36, L36, k36, n36⟩, -, X36, ⟨Lc36, hQ36, l36, y36, z36⟩, st36⟩ := X34.virtualBack hx (y := (⟨"com/example/attestry/attestry/BetaMixture$Beta", "posteriorMean", "(ID)D"⟩ : MethodName)) (z := (⟨"com/example/attestry/attestry/BetaMixture$Beta", "posteriorMean", "(ID)D"⟩ : MethodName)) hown (mvT hZ (hw _ (List.mem_of_getElem? (i := 24) rfl))) (mvT hZ (hw _ (List.mem_of_getElem? (i := 25) rfl))) (notFace_of_selects (args := #[]) (mvT hZ (hw _ (List.mem_of_getElem? (i := 27) rfl)))) (mvT hZ (hw _ (List.mem_of_getElem? (i := 27) rfl))) (mvT hZ (hw _ (List.mem_of_getElem? (i := 26) rfl))) (by decide) (backOf (W := 0) (rm4 l Z aZ hw [] b32 nn (FP.ddiv (FP.l2d si) (4620693217682128896 : UInt64)) (FP.ddiv (FP.l2d ai) (4620693217682128896 : UInt64)) (FP.ddiv (FP.l2d bi) (4620693217682128896 : UInt64)) T34.heap n0 Zs34 Fa34 Fb34 hl.2.2.2.2.2.1 hl.2.2.2.1 hl.2.2.2.2.2.2.1 hl.2.2.2.2.2.2.2.1) hZ (hw _ (List.mem_of_getElem? (i := 28) rfl)) (hw _ (List.mem_of_getElem? (i := 6) rfl)) (by decide) (by decide)) q36a q36c (g := (mkF m 75 #[.val (.int xv), .val (.int yv), .val (.int n0v), .val (.long sv), .second, .val (.long ai), .second, .val (.long bi), .second, .val (.int nn), .val (.long si), .second, .val (.ref b32), .unset, .unset, .unset, .unset] [(.double (FP.ddiv (FP.l2d si) (4620693217682128896 : UInt64))), (.int nn), (.ref b32)])) rfl (by rw [hml]; rfl) (Steps.refl _) (argsL := [(.int nn), (.double (FP.ddiv (FP.l2d si) (4620693217682128896 : UInt64)))]) (rest := []) (lenOf pd_2 rfl) rfl (by show 2 * 0 + _ ≤ _; exact Nat.le_of_eq rfl) (hb hby at_75) (fun _ _ => ⟨rfl, rfl, (by decide : 1 + 0 ≤ _), (by decide : 2 + 0 ≤ _)⟩)
  dsimp only [Pt.U, Pt.locs, Pt.cells, Pt.slots] at X36 l36 y36 z36 st36 hQ36
  rw [l36, y36, z36] at X36
  clear l36 y36 z36
  obtain ⟨vq36, N36q, e36⟩ := hQ36
  rw [vq36] at st36
  have N36 := Fr.app N34 N36q
  have pre36 : ∀ t, Steps p.tables e below (T36.setTop (mkF m 78 #[.val (.int xv), .val (.int yv), .val (.int n0v), .val (.long sv), .second, .val (.long ai), .second, .val (.long bi), .second, .val (.int nn), .val (.long si), .second, .val (.ref b32), .unset, .unset, .unset, .unset] [(.double (FP.ddiv (FP.dadd (FP.ddiv (FP.l2d ai) (4620693217682128896 : UInt64)) (FP.ddiv (FP.l2d si) (4620693217682128896 : UInt64))) (FP.dadd (FP.dadd (FP.ddiv (FP.l2d ai) (4620693217682128896 : UInt64)) (FP.ddiv (FP.l2d bi) (4620693217682128896 : UInt64))) (FP.i2d nn))))])) t → Steps p.tables e below (s₁.setTop (entryFrame m #[(.int xv), (.int yv), (.int n0v), (.long sv)] maxLocals)) t := fun t kt => pre35 _ (st36.trans kt)
  have pre37 : ∀ t, Steps p.tables e below (T36.setTop (mkF m 108 #[.val (.int xv), .val (.int yv), .val (.int n0v), .val (.long sv), .second, .val (.long ai), .second, .val (.long bi), .second, .val (.int nn), .val (.long si), .second, .val (.ref b32), .val (.double (FP.ddiv (FP.dadd (FP.ddiv (FP.l2d ai) (4620693217682128896 : UInt64)) (FP.ddiv (FP.l2d si) (4620693217682128896 : UInt64))) (FP.dadd (FP.dadd (FP.ddiv (FP.l2d ai) (4620693217682128896 : UInt64)) (FP.ddiv (FP.l2d bi) (4620693217682128896 : UInt64))) (FP.i2d nn)))), .second, .val (.double (FP.ddiv (FP.l2d (ai + si)) (FP.l2d ((ai + bi) + ((8 : Int64) * (nn.toInt64)))))), .second] [(.int (cmpValue (FP.dcmp (FP.ddiv (FP.dadd (FP.ddiv (FP.l2d ai) (4620693217682128896 : UInt64)) (FP.ddiv (FP.l2d si) (4620693217682128896 : UInt64))) (FP.dadd (FP.dadd (FP.ddiv (FP.l2d ai) (4620693217682128896 : UInt64)) (FP.ddiv (FP.l2d bi) (4620693217682128896 : UInt64))) (FP.i2d nn))) (FP.ddiv (FP.l2d (ai + si)) (FP.l2d ((ai + bi) + ((8 : Int64) * (nn.toInt64)))))) .l))])) t → Steps p.tables e below (s₁.setTop (entryFrame m #[(.int xv), (.int yv), (.int n0v), (.long sv)] maxLocals)) t := fun t kt => by
    refine pre36 _ ?_
    show Steps p.tables e below (T36.setTop (mkF m 78 #[.val (.int xv), .val (.int yv), .val (.int n0v), .val (.long sv), .second, .val (.long ai), .second, .val (.long bi), .second, .val (.int nn), .val (.long si), .second, .val (.ref b32), .unset, .unset, .unset, .unset] [(.double (FP.ddiv (FP.dadd (FP.ddiv (FP.l2d ai) (4620693217682128896 : UInt64)) (FP.ddiv (FP.l2d si) (4620693217682128896 : UInt64))) (FP.dadd (FP.dadd (FP.ddiv (FP.l2d ai) (4620693217682128896 : UInt64)) (FP.ddiv (FP.l2d bi) (4620693217682128896 : UInt64))) (FP.i2d nn))))])) _
    refine XS.dstore X36.here hx rfl (hb hby at_78) rfl (l' := #[.val (.int xv), .val (.int yv), .val (.int n0v), .val (.long sv), .second, .val (.long ai), .second, .val (.long bi), .second, .val (.int nn), .val (.long si), .second, .val (.ref b32), .val (.double (FP.ddiv (FP.dadd (FP.ddiv (FP.l2d ai) (4620693217682128896 : UInt64)) (FP.ddiv (FP.l2d si) (4620693217682128896 : UInt64))) (FP.dadd (FP.dadd (FP.ddiv (FP.l2d ai) (4620693217682128896 : UInt64)) (FP.ddiv (FP.l2d bi) (4620693217682128896 : UInt64))) (FP.i2d nn)))), .second, .unset, .unset]) rfl ?_
    show Steps p.tables e below (T36.setTop (mkF m 80 #[.val (.int xv), .val (.int yv), .val (.int n0v), .val (.long sv), .second, .val (.long ai), .second, .val (.long bi), .second, .val (.int nn), .val (.long si), .second, .val (.ref b32), .val (.double (FP.ddiv (FP.dadd (FP.ddiv (FP.l2d ai) (4620693217682128896 : UInt64)) (FP.ddiv (FP.l2d si) (4620693217682128896 : UInt64))) (FP.dadd (FP.dadd (FP.ddiv (FP.l2d ai) (4620693217682128896 : UInt64)) (FP.ddiv (FP.l2d bi) (4620693217682128896 : UInt64))) (FP.i2d nn)))), .second, .unset, .unset] [])) _
    refine XS.lload X36.here hx rfl (hb hby at_80) rfl ?_
    show Steps p.tables e below (T36.setTop (mkF m 82 #[.val (.int xv), .val (.int yv), .val (.int n0v), .val (.long sv), .second, .val (.long ai), .second, .val (.long bi), .second, .val (.int nn), .val (.long si), .second, .val (.ref b32), .val (.double (FP.ddiv (FP.dadd (FP.ddiv (FP.l2d ai) (4620693217682128896 : UInt64)) (FP.ddiv (FP.l2d si) (4620693217682128896 : UInt64))) (FP.dadd (FP.dadd (FP.ddiv (FP.l2d ai) (4620693217682128896 : UInt64)) (FP.ddiv (FP.l2d bi) (4620693217682128896 : UInt64))) (FP.i2d nn)))), .second, .unset, .unset] [(.long ai)])) _
    refine XS.lload X36.here hx rfl (hb hby at_82) rfl ?_
    show Steps p.tables e below (T36.setTop (mkF m 84 #[.val (.int xv), .val (.int yv), .val (.int n0v), .val (.long sv), .second, .val (.long ai), .second, .val (.long bi), .second, .val (.int nn), .val (.long si), .second, .val (.ref b32), .val (.double (FP.ddiv (FP.dadd (FP.ddiv (FP.l2d ai) (4620693217682128896 : UInt64)) (FP.ddiv (FP.l2d si) (4620693217682128896 : UInt64))) (FP.dadd (FP.dadd (FP.ddiv (FP.l2d ai) (4620693217682128896 : UInt64)) (FP.ddiv (FP.l2d bi) (4620693217682128896 : UInt64))) (FP.i2d nn)))), .second, .unset, .unset] [(.long si), (.long ai)])) _
    refine XS.ladd X36.here hx rfl (hb hby at_84) rfl ?_
    show Steps p.tables e below (T36.setTop (mkF m 85 #[.val (.int xv), .val (.int yv), .val (.int n0v), .val (.long sv), .second, .val (.long ai), .second, .val (.long bi), .second, .val (.int nn), .val (.long si), .second, .val (.ref b32), .val (.double (FP.ddiv (FP.dadd (FP.ddiv (FP.l2d ai) (4620693217682128896 : UInt64)) (FP.ddiv (FP.l2d si) (4620693217682128896 : UInt64))) (FP.dadd (FP.dadd (FP.ddiv (FP.l2d ai) (4620693217682128896 : UInt64)) (FP.ddiv (FP.l2d bi) (4620693217682128896 : UInt64))) (FP.i2d nn)))), .second, .unset, .unset] [(.long (ai + si))])) _
    refine XS.l2dS X36.here hx rfl (hb hby at_85) rfl (v := FP.l2d (ai + si)) rfl ?_
    show Steps p.tables e below (T36.setTop (mkF m 86 #[.val (.int xv), .val (.int yv), .val (.int n0v), .val (.long sv), .second, .val (.long ai), .second, .val (.long bi), .second, .val (.int nn), .val (.long si), .second, .val (.ref b32), .val (.double (FP.ddiv (FP.dadd (FP.ddiv (FP.l2d ai) (4620693217682128896 : UInt64)) (FP.ddiv (FP.l2d si) (4620693217682128896 : UInt64))) (FP.dadd (FP.dadd (FP.ddiv (FP.l2d ai) (4620693217682128896 : UInt64)) (FP.ddiv (FP.l2d bi) (4620693217682128896 : UInt64))) (FP.i2d nn)))), .second, .unset, .unset] [(.double (FP.l2d (ai + si)))])) _
    refine XS.lload X36.here hx rfl (hb hby at_86) rfl ?_
    show Steps p.tables e below (T36.setTop (mkF m 88 #[.val (.int xv), .val (.int yv), .val (.int n0v), .val (.long sv), .second, .val (.long ai), .second, .val (.long bi), .second, .val (.int nn), .val (.long si), .second, .val (.ref b32), .val (.double (FP.ddiv (FP.dadd (FP.ddiv (FP.l2d ai) (4620693217682128896 : UInt64)) (FP.ddiv (FP.l2d si) (4620693217682128896 : UInt64))) (FP.dadd (FP.dadd (FP.ddiv (FP.l2d ai) (4620693217682128896 : UInt64)) (FP.ddiv (FP.l2d bi) (4620693217682128896 : UInt64))) (FP.i2d nn)))), .second, .unset, .unset] [(.long ai), (.double (FP.l2d (ai + si)))])) _
    refine XS.lload X36.here hx rfl (hb hby at_88) rfl ?_
    show Steps p.tables e below (T36.setTop (mkF m 90 #[.val (.int xv), .val (.int yv), .val (.int n0v), .val (.long sv), .second, .val (.long ai), .second, .val (.long bi), .second, .val (.int nn), .val (.long si), .second, .val (.ref b32), .val (.double (FP.ddiv (FP.dadd (FP.ddiv (FP.l2d ai) (4620693217682128896 : UInt64)) (FP.ddiv (FP.l2d si) (4620693217682128896 : UInt64))) (FP.dadd (FP.dadd (FP.ddiv (FP.l2d ai) (4620693217682128896 : UInt64)) (FP.ddiv (FP.l2d bi) (4620693217682128896 : UInt64))) (FP.i2d nn)))), .second, .unset, .unset] [(.long bi), (.long ai), (.double (FP.l2d (ai + si)))])) _
    refine XS.ladd X36.here hx rfl (hb hby at_90) rfl ?_
    show Steps p.tables e below (T36.setTop (mkF m 91 #[.val (.int xv), .val (.int yv), .val (.int n0v), .val (.long sv), .second, .val (.long ai), .second, .val (.long bi), .second, .val (.int nn), .val (.long si), .second, .val (.ref b32), .val (.double (FP.ddiv (FP.dadd (FP.ddiv (FP.l2d ai) (4620693217682128896 : UInt64)) (FP.ddiv (FP.l2d si) (4620693217682128896 : UInt64))) (FP.dadd (FP.dadd (FP.ddiv (FP.l2d ai) (4620693217682128896 : UInt64)) (FP.ddiv (FP.l2d bi) (4620693217682128896 : UInt64))) (FP.i2d nn)))), .second, .unset, .unset] [(.long (ai + bi)), (.double (FP.l2d (ai + si)))])) _
    refine X36.ldc2Long hx hown (mvT hZ (hw _ (List.mem_of_getElem? (i := 3) rfl))) (g := (mkF m 91 #[.val (.int xv), .val (.int yv), .val (.int n0v), .val (.long sv), .second, .val (.long ai), .second, .val (.long bi), .second, .val (.int nn), .val (.long si), .second, .val (.ref b32), .val (.double (FP.ddiv (FP.dadd (FP.ddiv (FP.l2d ai) (4620693217682128896 : UInt64)) (FP.ddiv (FP.l2d si) (4620693217682128896 : UInt64))) (FP.dadd (FP.dadd (FP.ddiv (FP.l2d ai) (4620693217682128896 : UInt64)) (FP.ddiv (FP.l2d bi) (4620693217682128896 : UInt64))) (FP.i2d nn)))), .second, .unset, .unset] [(.long (ai + bi)), (.double (FP.l2d (ai + si)))])) rfl (hb hby at_91) _ ?_
    show Steps p.tables e below (T36.setTop (mkF m 94 #[.val (.int xv), .val (.int yv), .val (.int n0v), .val (.long sv), .second, .val (.long ai), .second, .val (.long bi), .second, .val (.int nn), .val (.long si), .second, .val (.ref b32), .val (.double (FP.ddiv (FP.dadd (FP.ddiv (FP.l2d ai) (4620693217682128896 : UInt64)) (FP.ddiv (FP.l2d si) (4620693217682128896 : UInt64))) (FP.dadd (FP.dadd (FP.ddiv (FP.l2d ai) (4620693217682128896 : UInt64)) (FP.ddiv (FP.l2d bi) (4620693217682128896 : UInt64))) (FP.i2d nn)))), .second, .unset, .unset] [(.long (8 : Int64)), (.long (ai + bi)), (.double (FP.l2d (ai + si)))])) _
    refine XS.iload X36.here hx rfl (hb hby at_94) rfl ?_
    show Steps p.tables e below (T36.setTop (mkF m 96 #[.val (.int xv), .val (.int yv), .val (.int n0v), .val (.long sv), .second, .val (.long ai), .second, .val (.long bi), .second, .val (.int nn), .val (.long si), .second, .val (.ref b32), .val (.double (FP.ddiv (FP.dadd (FP.ddiv (FP.l2d ai) (4620693217682128896 : UInt64)) (FP.ddiv (FP.l2d si) (4620693217682128896 : UInt64))) (FP.dadd (FP.dadd (FP.ddiv (FP.l2d ai) (4620693217682128896 : UInt64)) (FP.ddiv (FP.l2d bi) (4620693217682128896 : UInt64))) (FP.i2d nn)))), .second, .unset, .unset] [(.int nn), (.long (8 : Int64)), (.long (ai + bi)), (.double (FP.l2d (ai + si)))])) _
    refine XS.i2l X36.here hx rfl (hb hby at_96) rfl ?_
    show Steps p.tables e below (T36.setTop (mkF m 97 #[.val (.int xv), .val (.int yv), .val (.int n0v), .val (.long sv), .second, .val (.long ai), .second, .val (.long bi), .second, .val (.int nn), .val (.long si), .second, .val (.ref b32), .val (.double (FP.ddiv (FP.dadd (FP.ddiv (FP.l2d ai) (4620693217682128896 : UInt64)) (FP.ddiv (FP.l2d si) (4620693217682128896 : UInt64))) (FP.dadd (FP.dadd (FP.ddiv (FP.l2d ai) (4620693217682128896 : UInt64)) (FP.ddiv (FP.l2d bi) (4620693217682128896 : UInt64))) (FP.i2d nn)))), .second, .unset, .unset] [(.long (nn.toInt64)), (.long (8 : Int64)), (.long (ai + bi)), (.double (FP.l2d (ai + si)))])) _
    refine XS.lmul X36.here hx rfl (hb hby at_97) rfl ?_
    show Steps p.tables e below (T36.setTop (mkF m 98 #[.val (.int xv), .val (.int yv), .val (.int n0v), .val (.long sv), .second, .val (.long ai), .second, .val (.long bi), .second, .val (.int nn), .val (.long si), .second, .val (.ref b32), .val (.double (FP.ddiv (FP.dadd (FP.ddiv (FP.l2d ai) (4620693217682128896 : UInt64)) (FP.ddiv (FP.l2d si) (4620693217682128896 : UInt64))) (FP.dadd (FP.dadd (FP.ddiv (FP.l2d ai) (4620693217682128896 : UInt64)) (FP.ddiv (FP.l2d bi) (4620693217682128896 : UInt64))) (FP.i2d nn)))), .second, .unset, .unset] [(.long ((8 : Int64) * (nn.toInt64))), (.long (ai + bi)), (.double (FP.l2d (ai + si)))])) _
    refine XS.ladd X36.here hx rfl (hb hby at_98) rfl ?_
    show Steps p.tables e below (T36.setTop (mkF m 99 #[.val (.int xv), .val (.int yv), .val (.int n0v), .val (.long sv), .second, .val (.long ai), .second, .val (.long bi), .second, .val (.int nn), .val (.long si), .second, .val (.ref b32), .val (.double (FP.ddiv (FP.dadd (FP.ddiv (FP.l2d ai) (4620693217682128896 : UInt64)) (FP.ddiv (FP.l2d si) (4620693217682128896 : UInt64))) (FP.dadd (FP.dadd (FP.ddiv (FP.l2d ai) (4620693217682128896 : UInt64)) (FP.ddiv (FP.l2d bi) (4620693217682128896 : UInt64))) (FP.i2d nn)))), .second, .unset, .unset] [(.long ((ai + bi) + ((8 : Int64) * (nn.toInt64)))), (.double (FP.l2d (ai + si)))])) _
    refine XS.l2dS X36.here hx rfl (hb hby at_99) rfl (v := FP.l2d ((ai + bi) + ((8 : Int64) * (nn.toInt64)))) rfl ?_
    show Steps p.tables e below (T36.setTop (mkF m 100 #[.val (.int xv), .val (.int yv), .val (.int n0v), .val (.long sv), .second, .val (.long ai), .second, .val (.long bi), .second, .val (.int nn), .val (.long si), .second, .val (.ref b32), .val (.double (FP.ddiv (FP.dadd (FP.ddiv (FP.l2d ai) (4620693217682128896 : UInt64)) (FP.ddiv (FP.l2d si) (4620693217682128896 : UInt64))) (FP.dadd (FP.dadd (FP.ddiv (FP.l2d ai) (4620693217682128896 : UInt64)) (FP.ddiv (FP.l2d bi) (4620693217682128896 : UInt64))) (FP.i2d nn)))), .second, .unset, .unset] [(.double (FP.l2d ((ai + bi) + ((8 : Int64) * (nn.toInt64))))), (.double (FP.l2d (ai + si)))])) _
    refine XS.ddivS X36.here hx rfl (hb hby at_100) rfl hl.2.2.2.2.2.2.2.2.1 (v := (FP.ddiv (FP.l2d (ai + si)) (FP.l2d ((ai + bi) + ((8 : Int64) * (nn.toInt64)))))) rfl ?_
    show Steps p.tables e below (T36.setTop (mkF m 101 #[.val (.int xv), .val (.int yv), .val (.int n0v), .val (.long sv), .second, .val (.long ai), .second, .val (.long bi), .second, .val (.int nn), .val (.long si), .second, .val (.ref b32), .val (.double (FP.ddiv (FP.dadd (FP.ddiv (FP.l2d ai) (4620693217682128896 : UInt64)) (FP.ddiv (FP.l2d si) (4620693217682128896 : UInt64))) (FP.dadd (FP.dadd (FP.ddiv (FP.l2d ai) (4620693217682128896 : UInt64)) (FP.ddiv (FP.l2d bi) (4620693217682128896 : UInt64))) (FP.i2d nn)))), .second, .unset, .unset] [(.double (FP.ddiv (FP.l2d (ai + si)) (FP.l2d ((ai + bi) + ((8 : Int64) * (nn.toInt64))))))])) _
    refine XS.dstore X36.here hx rfl (hb hby at_101) rfl (l' := #[.val (.int xv), .val (.int yv), .val (.int n0v), .val (.long sv), .second, .val (.long ai), .second, .val (.long bi), .second, .val (.int nn), .val (.long si), .second, .val (.ref b32), .val (.double (FP.ddiv (FP.dadd (FP.ddiv (FP.l2d ai) (4620693217682128896 : UInt64)) (FP.ddiv (FP.l2d si) (4620693217682128896 : UInt64))) (FP.dadd (FP.dadd (FP.ddiv (FP.l2d ai) (4620693217682128896 : UInt64)) (FP.ddiv (FP.l2d bi) (4620693217682128896 : UInt64))) (FP.i2d nn)))), .second, .val (.double (FP.ddiv (FP.l2d (ai + si)) (FP.l2d ((ai + bi) + ((8 : Int64) * (nn.toInt64)))))), .second]) rfl ?_
    show Steps p.tables e below (T36.setTop (mkF m 103 #[.val (.int xv), .val (.int yv), .val (.int n0v), .val (.long sv), .second, .val (.long ai), .second, .val (.long bi), .second, .val (.int nn), .val (.long si), .second, .val (.ref b32), .val (.double (FP.ddiv (FP.dadd (FP.ddiv (FP.l2d ai) (4620693217682128896 : UInt64)) (FP.ddiv (FP.l2d si) (4620693217682128896 : UInt64))) (FP.dadd (FP.dadd (FP.ddiv (FP.l2d ai) (4620693217682128896 : UInt64)) (FP.ddiv (FP.l2d bi) (4620693217682128896 : UInt64))) (FP.i2d nn)))), .second, .val (.double (FP.ddiv (FP.l2d (ai + si)) (FP.l2d ((ai + bi) + ((8 : Int64) * (nn.toInt64)))))), .second] [])) _
    refine XS.dload X36.here hx rfl (hb hby at_103) rfl ?_
    show Steps p.tables e below (T36.setTop (mkF m 105 #[.val (.int xv), .val (.int yv), .val (.int n0v), .val (.long sv), .second, .val (.long ai), .second, .val (.long bi), .second, .val (.int nn), .val (.long si), .second, .val (.ref b32), .val (.double (FP.ddiv (FP.dadd (FP.ddiv (FP.l2d ai) (4620693217682128896 : UInt64)) (FP.ddiv (FP.l2d si) (4620693217682128896 : UInt64))) (FP.dadd (FP.dadd (FP.ddiv (FP.l2d ai) (4620693217682128896 : UInt64)) (FP.ddiv (FP.l2d bi) (4620693217682128896 : UInt64))) (FP.i2d nn)))), .second, .val (.double (FP.ddiv (FP.l2d (ai + si)) (FP.l2d ((ai + bi) + ((8 : Int64) * (nn.toInt64)))))), .second] [(.double (FP.ddiv (FP.dadd (FP.ddiv (FP.l2d ai) (4620693217682128896 : UInt64)) (FP.ddiv (FP.l2d si) (4620693217682128896 : UInt64))) (FP.dadd (FP.dadd (FP.ddiv (FP.l2d ai) (4620693217682128896 : UInt64)) (FP.ddiv (FP.l2d bi) (4620693217682128896 : UInt64))) (FP.i2d nn))))])) _
    refine XS.dload X36.here hx rfl (hb hby at_105) rfl ?_
    show Steps p.tables e below (T36.setTop (mkF m 107 #[.val (.int xv), .val (.int yv), .val (.int n0v), .val (.long sv), .second, .val (.long ai), .second, .val (.long bi), .second, .val (.int nn), .val (.long si), .second, .val (.ref b32), .val (.double (FP.ddiv (FP.dadd (FP.ddiv (FP.l2d ai) (4620693217682128896 : UInt64)) (FP.ddiv (FP.l2d si) (4620693217682128896 : UInt64))) (FP.dadd (FP.dadd (FP.ddiv (FP.l2d ai) (4620693217682128896 : UInt64)) (FP.ddiv (FP.l2d bi) (4620693217682128896 : UInt64))) (FP.i2d nn)))), .second, .val (.double (FP.ddiv (FP.l2d (ai + si)) (FP.l2d ((ai + bi) + ((8 : Int64) * (nn.toInt64)))))), .second] [(.double (FP.ddiv (FP.l2d (ai + si)) (FP.l2d ((ai + bi) + ((8 : Int64) * (nn.toInt64)))))), (.double (FP.ddiv (FP.dadd (FP.ddiv (FP.l2d ai) (4620693217682128896 : UInt64)) (FP.ddiv (FP.l2d si) (4620693217682128896 : UInt64))) (FP.dadd (FP.dadd (FP.ddiv (FP.l2d ai) (4620693217682128896 : UInt64)) (FP.ddiv (FP.l2d bi) (4620693217682128896 : UInt64))) (FP.i2d nn))))])) _
    refine XS.dcmpS X36.here hx rfl (hb hby at_107) rfl (v := (cmpValue (FP.dcmp (FP.ddiv (FP.dadd (FP.ddiv (FP.l2d ai) (4620693217682128896 : UInt64)) (FP.ddiv (FP.l2d si) (4620693217682128896 : UInt64))) (FP.dadd (FP.dadd (FP.ddiv (FP.l2d ai) (4620693217682128896 : UInt64)) (FP.ddiv (FP.l2d bi) (4620693217682128896 : UInt64))) (FP.i2d nn))) (FP.ddiv (FP.l2d (ai + si)) (FP.l2d ((ai + bi) + ((8 : Int64) * (nn.toInt64)))))) .l)) rfl ?_
    show Steps p.tables e below (T36.setTop (mkF m 108 #[.val (.int xv), .val (.int yv), .val (.int n0v), .val (.long sv), .second, .val (.long ai), .second, .val (.long bi), .second, .val (.int nn), .val (.long si), .second, .val (.ref b32), .val (.double (FP.ddiv (FP.dadd (FP.ddiv (FP.l2d ai) (4620693217682128896 : UInt64)) (FP.ddiv (FP.l2d si) (4620693217682128896 : UInt64))) (FP.dadd (FP.dadd (FP.ddiv (FP.l2d ai) (4620693217682128896 : UInt64)) (FP.ddiv (FP.l2d bi) (4620693217682128896 : UInt64))) (FP.i2d nn)))), .second, .val (.double (FP.ddiv (FP.l2d (ai + si)) (FP.l2d ((ai + bi) + ((8 : Int64) * (nn.toInt64)))))), .second] [(.int (cmpValue (FP.dcmp (FP.ddiv (FP.dadd (FP.ddiv (FP.l2d ai) (4620693217682128896 : UInt64)) (FP.ddiv (FP.l2d si) (4620693217682128896 : UInt64))) (FP.dadd (FP.dadd (FP.ddiv (FP.l2d ai) (4620693217682128896 : UInt64)) (FP.ddiv (FP.l2d bi) (4620693217682128896 : UInt64))) (FP.i2d nn))) (FP.ddiv (FP.l2d (ai + si)) (FP.l2d ((ai + bi) + ((8 : Int64) * (nn.toInt64)))))) .l))])) _
    exact kt
  have pre38 : ∀ t, Steps p.tables e below (T36.setTop (mkF m 111 #[.val (.int xv), .val (.int yv), .val (.int n0v), .val (.long sv), .second, .val (.long ai), .second, .val (.long bi), .second, .val (.int nn), .val (.long si), .second, .val (.ref b32), .val (.double (FP.ddiv (FP.dadd (FP.ddiv (FP.l2d ai) (4620693217682128896 : UInt64)) (FP.ddiv (FP.l2d si) (4620693217682128896 : UInt64))) (FP.dadd (FP.dadd (FP.ddiv (FP.l2d ai) (4620693217682128896 : UInt64)) (FP.ddiv (FP.l2d bi) (4620693217682128896 : UInt64))) (FP.i2d nn)))), .second, .val (.double (FP.ddiv (FP.l2d (ai + si)) (FP.l2d ((ai + bi) + ((8 : Int64) * (nn.toInt64)))))), .second] [])) t → Steps p.tables e below (s₁.setTop (entryFrame m #[(.int xv), (.int yv), (.int n0v), (.long sv)] maxLocals)) t := fun t kt => by
    refine pre37 _ ?_
    show Steps p.tables e below (T36.setTop (mkF m 108 #[.val (.int xv), .val (.int yv), .val (.int n0v), .val (.long sv), .second, .val (.long ai), .second, .val (.long bi), .second, .val (.int nn), .val (.long si), .second, .val (.ref b32), .val (.double (FP.ddiv (FP.dadd (FP.ddiv (FP.l2d ai) (4620693217682128896 : UInt64)) (FP.ddiv (FP.l2d si) (4620693217682128896 : UInt64))) (FP.dadd (FP.dadd (FP.ddiv (FP.l2d ai) (4620693217682128896 : UInt64)) (FP.ddiv (FP.l2d bi) (4620693217682128896 : UInt64))) (FP.i2d nn)))), .second, .val (.double (FP.ddiv (FP.l2d (ai + si)) (FP.l2d ((ai + bi) + ((8 : Int64) * (nn.toInt64)))))), .second] [(.int (cmpValue (FP.dcmp (FP.ddiv (FP.dadd (FP.ddiv (FP.l2d ai) (4620693217682128896 : UInt64)) (FP.ddiv (FP.l2d si) (4620693217682128896 : UInt64))) (FP.dadd (FP.dadd (FP.ddiv (FP.l2d ai) (4620693217682128896 : UInt64)) (FP.ddiv (FP.l2d bi) (4620693217682128896 : UInt64))) (FP.i2d nn))) (FP.ddiv (FP.l2d (ai + si)) (FP.l2d ((ai + bi) + ((8 : Int64) * (nn.toInt64)))))) .l))])) _
    refine XS.ifNo X36.here hx rfl (hb hby at_108) rfl ((if0 _ _).trans (teq hl.2.2.2.2.2.2.2.2.2).2) ?_
    show Steps p.tables e below (T36.setTop (mkF m 111 #[.val (.int xv), .val (.int yv), .val (.int n0v), .val (.long sv), .second, .val (.long ai), .second, .val (.long bi), .second, .val (.int nn), .val (.long si), .second, .val (.ref b32), .val (.double (FP.ddiv (FP.dadd (FP.ddiv (FP.l2d ai) (4620693217682128896 : UInt64)) (FP.ddiv (FP.l2d si) (4620693217682128896 : UInt64))) (FP.dadd (FP.dadd (FP.ddiv (FP.l2d ai) (4620693217682128896 : UInt64)) (FP.ddiv (FP.l2d bi) (4620693217682128896 : UInt64))) (FP.i2d nn)))), .second, .val (.double (FP.ddiv (FP.l2d (ai + si)) (FP.l2d ((ai + bi) + ((8 : Int64) * (nn.toInt64)))))), .second] [])) _
    exact kt
  have pre39 : ∀ t, Steps p.tables e below (T36.setTop (mkF m 116 #[.val (.int xv), .val (.int yv), .val (.int n0v), .val (.long sv), .second, .val (.long ai), .second, .val (.long bi), .second, .val (.int nn), .val (.long si), .second, .val (.ref b32), .val (.double (FP.ddiv (FP.dadd (FP.ddiv (FP.l2d ai) (4620693217682128896 : UInt64)) (FP.ddiv (FP.l2d si) (4620693217682128896 : UInt64))) (FP.dadd (FP.dadd (FP.ddiv (FP.l2d ai) (4620693217682128896 : UInt64)) (FP.ddiv (FP.l2d bi) (4620693217682128896 : UInt64))) (FP.i2d nn)))), .second, .val (.double (FP.ddiv (FP.l2d (ai + si)) (FP.l2d ((ai + bi) + ((8 : Int64) * (nn.toInt64)))))), .second] [(.int (1 : Int32))])) t → Steps p.tables e below (s₁.setTop (entryFrame m #[(.int xv), (.int yv), (.int n0v), (.long sv)] maxLocals)) t := fun t kt => by
    refine pre38 _ ?_
    show Steps p.tables e below (T36.setTop (mkF m 111 #[.val (.int xv), .val (.int yv), .val (.int n0v), .val (.long sv), .second, .val (.long ai), .second, .val (.long bi), .second, .val (.int nn), .val (.long si), .second, .val (.ref b32), .val (.double (FP.ddiv (FP.dadd (FP.ddiv (FP.l2d ai) (4620693217682128896 : UInt64)) (FP.ddiv (FP.l2d si) (4620693217682128896 : UInt64))) (FP.dadd (FP.dadd (FP.ddiv (FP.l2d ai) (4620693217682128896 : UInt64)) (FP.ddiv (FP.l2d bi) (4620693217682128896 : UInt64))) (FP.i2d nn)))), .second, .val (.double (FP.ddiv (FP.l2d (ai + si)) (FP.l2d ((ai + bi) + ((8 : Int64) * (nn.toInt64)))))), .second] [])) _
    refine XS.iconst X36.here hx rfl (hb hby at_111) ?_
    show Steps p.tables e below (T36.setTop (mkF m 112 #[.val (.int xv), .val (.int yv), .val (.int n0v), .val (.long sv), .second, .val (.long ai), .second, .val (.long bi), .second, .val (.int nn), .val (.long si), .second, .val (.ref b32), .val (.double (FP.ddiv (FP.dadd (FP.ddiv (FP.l2d ai) (4620693217682128896 : UInt64)) (FP.ddiv (FP.l2d si) (4620693217682128896 : UInt64))) (FP.dadd (FP.dadd (FP.ddiv (FP.l2d ai) (4620693217682128896 : UInt64)) (FP.ddiv (FP.l2d bi) (4620693217682128896 : UInt64))) (FP.i2d nn)))), .second, .val (.double (FP.ddiv (FP.l2d (ai + si)) (FP.l2d ((ai + bi) + ((8 : Int64) * (nn.toInt64)))))), .second] [(.int (1 : Int32))])) _
    refine XS.goto X36.here hx rfl (pc0 := 112) (pc' := 116) rfl (hb hby at_112) (by decide) (by decide) ?_
    show Steps p.tables e below (T36.setTop (mkF m 116 #[.val (.int xv), .val (.int yv), .val (.int n0v), .val (.long sv), .second, .val (.long ai), .second, .val (.long bi), .second, .val (.int nn), .val (.long si), .second, .val (.ref b32), .val (.double (FP.ddiv (FP.dadd (FP.ddiv (FP.l2d ai) (4620693217682128896 : UInt64)) (FP.ddiv (FP.l2d si) (4620693217682128896 : UInt64))) (FP.dadd (FP.dadd (FP.ddiv (FP.l2d ai) (4620693217682128896 : UInt64)) (FP.ddiv (FP.l2d bi) (4620693217682128896 : UInt64))) (FP.i2d nn)))), .second, .val (.double (FP.ddiv (FP.l2d (ai + si)) (FP.l2d ((ai + bi) + ((8 : Int64) * (nn.toInt64)))))), .second] [(.int (1 : Int32))])) _
    exact kt
  obtain ⟨fs, hr, hrun, hended, hW, hsame⟩ := X36.leave (v := some (.int (1 : Int32))) (fun h => by rw [Bd.returns] at h; cases h)
  refine ⟨_, _, pre39 _ ?_, hrun, hended, _, _, rfl, ?_, ⟨_, rfl⟩, hW, hsame.mono (by decide) (by decide)⟩
  · show Steps p.tables e below (T36.setTop (mkF m 116 #[.val (.int xv), .val (.int yv), .val (.int n0v), .val (.long sv), .second, .val (.long ai), .second, .val (.long bi), .second, .val (.int nn), .val (.long si), .second, .val (.ref b32), .val (.double (FP.ddiv (FP.dadd (FP.ddiv (FP.l2d ai) (4620693217682128896 : UInt64)) (FP.ddiv (FP.l2d si) (4620693217682128896 : UInt64))) (FP.dadd (FP.dadd (FP.ddiv (FP.l2d ai) (4620693217682128896 : UInt64)) (FP.ddiv (FP.l2d bi) (4620693217682128896 : UInt64))) (FP.i2d nn)))), .second, .val (.double (FP.ddiv (FP.l2d (ai + si)) (FP.l2d ((ai + bi) + ((8 : Int64) * (nn.toInt64)))))), .second] [(.int (1 : Int32))])) _
    exact retN X36 hx (t := .boolean) Bd.returns (by simp) (hb hby at_116) hr
  · show Q0 xv yv n0v sv h0 n0 _ T36.heap _
    exact ⟨rfl, N36⟩
set_option maxRecDepth 65536 in
set_option maxHeartbeats 40000000 in
theorem comes_1 {Post : Tables → Env → Array Value → State → Outcome → State → Prop} (hpost : ∀ tb e args s v u, (limb_1_1.after args s (.returned v) u = true ∧ limb_1_2.after args s (.returned v) u = true ∧ True) → FrameEnd s (.returned v) u (Jvm.fieldLocs frame_1_writes args s ++ Jvm.arrayLocs frame_1_arrays args s ++ Jvm.staticLocs frame_1_statics s) 16 128 → Post tb e args s (.returned v) u) :
    ArmFor flags0 classFile x code maxLocals ret World_1 tables_1 room_1 Calls_1 rest_1 Pre_1 Post := by
  intro l hfl _ _ p e ha hc hk s m args below hf hA hF happ hP
  obtain ⟨hcalls, hrest, hpre⟩ := hP
  obtain ⟨-, -, -, hnamed, -, -, -, hat⟩ := (Spec.applies_iff hf).mp happ
  obtain ⟨hg, hn⟩ := and_e (Cond.before_iff.mp (show (Jvm.Cond.and given_1 narrow_1).before args s = true from hpre))
  obtain ⟨ga0, gb0⟩ := and_e hg
  obtain ⟨ga1, gb1⟩ := and_e gb0
  obtain ⟨ga2, gb2⟩ := and_e gb1
  obtain ⟨ga3, gb3⟩ := and_e gb2
  obtain ⟨w0, w1, w2, w3, rfl⟩ : ∃ w0 w1 w2 w3 : Value, args = #[w0, w1, w2, w3] := by
    have hs : args.size = 4 := by simpa [Cond.value, given_1] using ga0
    obtain ⟨L⟩ := args
    match L, hs with
    | [w0, w1, w2, w3], _ => exact ⟨w0, w1, w2, w3, rfl⟩
  have hw := fun d (hd : d ∈ tables_1) => atoms_spec (ws := Jvm.Cond.code x code maxLocals ret :: tables_1) hat d (List.mem_cons_of_mem _ hd)
  have hfit : Fit s := fun {y c} hc i hi => by
    obtain ⟨ha, rfl⟩ := Array.getElem?_eq_some_iff.mp hc
    have q := List.all_eq_true.mp ((Array.all_eq_true_iff_forall_mem.mp hF) _ (Array.getElem_mem ha)) i (List.mem_range.mpr hi)
    simpa [Array.getElem?_eq_getElem hi] using q
  obtain ⟨i0, ei0⟩ := is_v ga1
  obtain rfl : w0 = (.int i0) := Option.some.inj ei0
  obtain ⟨i1, ei1⟩ := is_v ga2
  obtain rfl : w1 = (.int i1) := Option.some.inj ei1
  obtain ⟨i2, ei2⟩ := is_v ga3
  obtain rfl : w2 = (.int i2) := Option.some.inj ei2
  obtain ⟨i3, ei3⟩ := isL_v gb3
  obtain rfl : w3 = (.long i3) := Option.some.inj ei3
  obtain ⟨n, o, h1, h2, h3, _, L, rfl, ⟨rfl, N⟩, hq⟩ := rm0 l s _ hw tables_1 i0 i1 i2 i3  s.heap s.heap.size (Nat.le_refl _)  p e ha hc hk s m _ below hf ((Spec.applies_iff_loose hf).mp happ).1 ⟨rfl, State.Warmed39.refl s, rfl⟩ trivial
  refine ⟨n, _, h1, h2, h3, hpost _ _ _ _ _ _ ⟨Cond.after_iff.mpr rfl, Cond.after_iff.mpr (eq_i res_at (Term.int_eval (1)) rfl), trivial⟩ ⟨hq.1, hq.2.1, (hq.2.2.sift fun y hy => Or.inr (N y hy)).mono (by decide) (by decide)⟩⟩
theorem main_1_1 : Claimed_1_1 := comes_1 fun _ _ _ _ _ _ h hF => ⟨h.1, hF⟩
theorem main_1_2 : Claimed_1_2 := comes_1 fun _ _ _ _ _ _ h hF => ⟨h.2.1, hF⟩
end Jvm.Pilot.@@N@@
namespace Jvm.Pilot.@@N@@
open Jvm Jvm.ClassFile Sem Op Lib Jvm.Free Jvm.Stand Jvm.Pilot.@@N@@.Jvm.D
/-! MADE BY PROGRAM (witnessworld.py) out of the Statement's table words and the real class files: 10 classes; the members and pool entries that the words name. The judged class is class 1, her method 1. -/
namespace start1
open Jvm.ClassFile
def u (s : String) : CpInfo := .utf8 (stringToUtf16 s)
/-- a pool by its gaps: so many unusable entries, then the entry; so many at the end -/
def gap : Nat → List CpInfo → List CpInfo
  | 0, r => r
  | n + 1, r => .unusable :: gap n r
def poolList (es : List (Nat × CpInfo)) (last : Nat) : List CpInfo := es.foldr (fun e r => gap e.1 (e.2 :: r)) (gap last [])
def pool (es : List (Nat × CpInfo)) (last : Nat) : Array CpInfo := ⟨poolList es last⟩
def fileOf (pool : Array CpInfo) (this : Nat) (attrs : Array Attribute := #[]) (ms : Array MethodInfo := #[]) (fl : Nat := 33) (sup : Nat := 0) (ifs : Array Nat := #[]) (fds : Array FieldInfo := #[]) : ClassFile where
  minorVersion := 0
  majorVersion := 65
  constantPool := pool
  accessFlags := fl
  thisClass := this
  superClass := sup
  interfaces := ifs
  fields := fds
  methods := ms
  attributes := attrs
def plain (name : String) (sup : Option ClassId) : Class where
  name := name
  kind := .ordinary
  loader := none
  accessFlags := 33
  super := sup
  interfaces := #[]
  cf := none
  fields := #[]
  methods := #[]
  instanceTypes := #[]
  staticTypes := #[]
  resolved := #[]
  callSites := []
  init := .initialized
  statics := none
  mirror := none

def pool0 : Array CpInfo := pool [(5, u "<init>"), (0, u "()V"), (1, .class_ 10), (1, u "java/lang/Object")] 113

def k0c0 : Code := { maxStack := 0, maxLocals := 1, code := object_method_1_code, exceptionTable := #[], attributes := #[] }
def k0m0 : Method := { name := "<init>", desc := "()V", sig := { parameters := [], returnType := none }, accessFlags := 1, code := some k0c0 }
/-- java/lang/Object -/
def k0 : Class := { plain "java/lang/Object" none with
  accessFlags := 33
  interfaces := #[]
  cf := some (fileOf pool0 8 #[] #[{ accessFlags := 1, nameIndex := 5, descriptorIndex := 6, attributes := #[] }] 33 0 #[] #[])
  fields := #[]
  methods := #[k0m0]
  instanceTypes := #[]
  staticTypes := #[]
  resolved := Array.replicate 124 none
  statics := none }

def pool1 : Array CpInfo := pool [(2, .class_ 4), (1, u "java/lang/Object"), (0, u "<init>"), (0, u "()V"), (0, .integer 1073741823), (0, .integer 2147483647), (0, .long 9223372036854775807), (1, .long 8), (1, .class_ 14), (0, u "com/example/attestry/attestry/BetaMixture$Beta"), (0, .double 4620693217682128896), (1, .methodref 13 18), (0, .nameAndType 5 19), (0, u "(DD)V"), (0, .methodref 13 21), (0, .nameAndType 22 23), (0, u "posteriorMean"), (0, u "(ID)D"), (0, .class_ 25), (0, u "com/example/attestry/attestry/BetaPosteriorMeanPinLaw"), (2, u "law"), (0, u "(IIIJ)Z")] 7

def k1m0 : Method := { name := "<init>", desc := "()V", sig := { parameters := [], returnType := none }, accessFlags := 1, code := none }
def k1c1 : Code := { maxStack := 8, maxLocals := 17, code := code, exceptionTable := #[], attributes := #[] }
def k1m1 : Method := { name := "law", desc := "(IIIJ)Z", sig := { parameters := [.int, .int, .int, .long], returnType := some .boolean }, accessFlags := 9, code := some k1c1 }
/-- com/example/attestry/attestry/BetaPosteriorMeanPinLaw -/
def k1 : Class := { plain "com/example/attestry/attestry/BetaPosteriorMeanPinLaw" (some 0) with
  accessFlags := 49
  interfaces := #[]
  cf := some (fileOf pool1 24 #[] #[{ accessFlags := 1, nameIndex := 5, descriptorIndex := 6, attributes := #[] }, { accessFlags := 9, nameIndex := 28, descriptorIndex := 29, attributes := #[] }] 49 2 #[] #[])
  fields := #[]
  methods := #[k1m0, k1m1]
  instanceTypes := #[]
  staticTypes := #[]
  resolved := Array.replicate 37 none
  statics := none }

def pool2 : Array CpInfo := pool [(1, .methodref 2 3), (0, .class_ 4), (0, .nameAndType 5 6), (0, u "java/lang/Object"), (0, u "<init>"), (0, u "()V"), (0, .class_ 8), (0, u "java/lang/Record")] 13

def k2c0 : Code := { maxStack := 1, maxLocals := 1, code := jdk_30_method_1_code, exceptionTable := #[], attributes := #[] }
def k2m0 : Method := { name := "<init>", desc := "()V", sig := { parameters := [], returnType := none }, accessFlags := 4, code := some k2c0 }
/-- java/lang/Record -/
def k2 : Class := { plain "java/lang/Record" (some 0) with
  accessFlags := 1057
  interfaces := #[]
  cf := some (fileOf pool2 7 #[] #[{ accessFlags := 4, nameIndex := 5, descriptorIndex := 6, attributes := #[] }] 1057 2 #[] #[])
  fields := #[]
  methods := #[k2m0]
  instanceTypes := #[]
  staticTypes := #[]
  resolved := Array.replicate 22 none
  statics := none }

def pool3 : Array CpInfo := pool [(1, .methodref 2 3), (0, .class_ 4), (0, .nameAndType 5 6), (0, u "java/lang/Record"), (0, u "<init>"), (0, u "()V"), (2, .double 9218868437227405312), (10, .fieldref 21 22), (0, .class_ 23), (0, .nameAndType 24 25), (0, u "com/example/attestry/attestry/BetaMixture$Beta"), (0, u "a"), (0, u "D"), (0, .fieldref 21 27), (0, .nameAndType 28 25), (0, u "b"), (12, u "(DD)V"), (6, u "posteriorMean"), (0, u "(ID)D"), (6, .class_ 57), (0, u "com/example/attestry/attestry/BetaMixture")] 28

def k3c0 : Code := { maxStack := 6, maxLocals := 5, code := prog_2_method_1_code, exceptionTable := #[], attributes := #[] }
def k3m0 : Method := { name := "<init>", desc := "(DD)V", sig := { parameters := [.double, .double], returnType := none }, accessFlags := 0, code := some k3c0 }
def k3c1 : Code := { maxStack := 6, maxLocals := 4, code := prog_2_method_3_code, exceptionTable := #[], attributes := #[] }
def k3m1 : Method := { name := "posteriorMean", desc := "(ID)D", sig := { parameters := [.int, .double], returnType := some .double }, accessFlags := 0, code := some k3c1 }
/-- com/example/attestry/attestry/BetaMixture$Beta -/
def k3 : Class := { plain "com/example/attestry/attestry/BetaMixture$Beta" (some 2) with
  accessFlags := 48
  interfaces := #[]
  cf := some (fileOf pool3 21 #[.nestHost 56] #[{ accessFlags := 0, nameIndex := 5, descriptorIndex := 41, attributes := #[] }, { accessFlags := 0, nameIndex := 48, descriptorIndex := 49, attributes := #[] }] 48 2 #[] #[{ accessFlags := 18, nameIndex := 24, descriptorIndex := 25, attributes := #[] }, { accessFlags := 18, nameIndex := 28, descriptorIndex := 25, attributes := #[] }])
  fields := #[{ name := "a", type := .double, accessFlags := 18, slot := 0, constantValue := 0 }, { name := "b", type := .double, accessFlags := 18, slot := 1, constantValue := 0 }]
  methods := #[k3m0, k3m1]
  instanceTypes := #[.double, .double]
  staticTypes := #[]
  resolved := Array.replicate 86 none
  statics := none }

def pool4 : Array CpInfo := pool [(1, u "java/lang/Cloneable"), (0, .class_ 1), (0, u "java/lang/Object"), (0, .class_ 3)] 3

/-- java/lang/Cloneable -/
def k4 : Class := { plain "java/lang/Cloneable" (some 0) with
  accessFlags := 1537
  interfaces := #[]
  cf := some (fileOf pool4 2 #[] #[] 1537 4 #[] #[])
  fields := #[]
  methods := #[]
  instanceTypes := #[]
  staticTypes := #[]
  resolved := Array.replicate 8 none
  statics := none }

def pool5 : Array CpInfo := pool [(1, u "java/io/Serializable"), (0, .class_ 1), (0, u "java/lang/Object"), (0, .class_ 3)] 3

/-- java/io/Serializable -/
def k5 : Class := { plain "java/io/Serializable" (some 0) with
  accessFlags := 1537
  interfaces := #[]
  cf := some (fileOf pool5 2 #[] #[] 1537 4 #[] #[])
  fields := #[]
  methods := #[]
  instanceTypes := #[]
  staticTypes := #[]
  resolved := Array.replicate 8 none
  statics := none }

/-- the primitive byte -/
def k6 : Class := { plain "byte" none with kind := .primitive 'B', accessFlags := 0x411 }
/-- [B -/
def k7 : Class := { plain "[B" (some 0) with kind := .array 6 .byte, interfaces := #[4, 5], accessFlags := 1041 }

/-- the primitive int -/
def k8 : Class := { plain "int" none with kind := .primitive 'I', accessFlags := 0x411 }
/-- [I -/
def k9 : Class := { plain "[I" (some 0) with kind := .array 8 .int, interfaces := #[4, 5], accessFlags := 1041 }

def heap : Heap := #[]
def classes : Array Class := #[k0, k1, k2, k3, k4, k5, k6, k7, k8, k9]
def interned : List (Array UInt16 × Addr) := []
def slotsUsed : Nat := 0
def theMethod : MethodId := ⟨1, 1⟩
def args0 : Array Value := #[.int 5, .int 9, .int 7, .long 3]
def aboutOver (below : List Frame) : State where
  vm := { classes := classes, interned := interned.toArray }
  heap := heap
  slotsUsed := slotsUsed
  threads := #[{ frames := .invoking theMethod args0 :: below }]
def below0 : List Frame := [.native { method := ⟨0, 0⟩, args := #[] }]
def about1 : State := aboutOver below0
def p0 : Program := .bare "" "" ""
def e0 : Env := launch0.env 0 0 0
theorem w_frames : about1.frames = Frame.invoking theMethod args0 :: below0 := rfl
set_option maxRecDepth 65536 in
theorem w_args : argsFit about1.vm theMethod args0 = true := by decide +kernel
set_option maxRecDepth 65536 in
theorem w_heap : heapFits about1 = true := by decide +kernel
set_option maxRecDepth 65536 in
theorem w_runnable : about1.curStatus? = some .runnable := by decide +kernel
set_option maxRecDepth 65536 in
theorem w_alone : about1.alone = true := by decide +kernel
set_option maxRecDepth 65536 in
theorem w_named : about1.methodNamed? x = some theMethod := by decide +kernel
set_option maxRecDepth 65536 in
theorem w_hears : about1.hears theMethod below0 = true := by decide +kernel
set_option maxRecDepth 65536 in
theorem w_ripe : about1.ripe theMethod args0 below0 = true := by decide +kernel
theorem w_running : about1.status = .running := rfl
set_option maxRecDepth 65536 in
theorem w_room : about1.hasRoom e0.platform room_1 = true :=
  launch0.hasRoom_least _ room_1 (by decide +kernel) (by decide +kernel) (by decide +kernel) (by decide +kernel) (by decide +kernel) (by decide +kernel)
theorem allAtoms_all (ts : List Jvm.Cond) (a : Array Jvm.Value) (st : Jvm.State) : (allAtoms ts).before a st = ts.all (fun c => c.before a st) := by
  induction ts with
  | nil => rfl
  | cons c t ih =>
    show (Jvm.Cond.and c (allAtoms t)).before a st = _
    rw [Jvm.Cond.before_and, ih, List.all_cons]
def words1 : List Jvm.Cond := Jvm.Cond.code x code maxLocals ret :: tables_1
/-- a 'code' word, met by the world's own term for the bytes: nothing is compared byte by byte -/
theorem code_word {y : MethodName} {bytes : ByteArray} {mx : Nat} {rt : Option FieldType} {a : Array Value} {s : State} {m : MethodId} {meth : Method} {c : Code} (h1 : s.methodNamed? y = some m) (h2 : s.vm.method? m = some meth) (h3 : meth.code = some c) (h4 : c.code = bytes)
    (h5 : (c.maxLocals == mx && c.exceptionTable.isEmpty && decide (c.maxStack ≤ mostOperands) && decide (meth.sig.returnType = rt) && !meth.locks && decide (parseMethodDescriptor y.desc = some meth.sig)) = true) : (Jvm.Cond.code y bytes mx rt).before a s = true := by
  simp only [Bool.and_eq_true, beq_iff_eq, Bool.not_eq_true', decide_eq_true_eq] at h5
  obtain ⟨⟨⟨⟨⟨g1, g2⟩, g3⟩, g4⟩, g5⟩, g6⟩ := h5
  simp [Cond.before, Cond.holds, Cond.value, h1, h2, h3, h4, g1, g2, g3, g4, g5, g6]
def isCode : Jvm.Cond → Bool
  | .code _ _ _ _ => true
  | _ => false
theorem all_split {L : List Jvm.Cond} {P : Jvm.Cond → Bool} (h1 : L.all (fun c => isCode c || P c) = true) (h2 : ∀ c ∈ L.filter isCode, P c = true) : L.all P = true := by
  refine List.all_eq_true.mpr fun c hc => ?_
  have h := List.all_eq_true.mp h1 c hc
  rcases Bool.eq_false_or_eq_true (isCode c) with hi | hi
  · exact h2 c (List.mem_filter.mpr ⟨hc, hi⟩)
  · simpa [hi] using h
set_option maxRecDepth 65536 in
theorem w_c0 : (Jvm.Cond.code x code maxLocals ret).before args0 about1 = true := code_word (m := ⟨1, 1⟩) (meth := k1m1) (c := k1c1) (by decide +kernel) rfl rfl rfl (by decide +kernel)
set_option maxRecDepth 65536 in
theorem w_c1 : (Jvm.Cond.code ({ cls := "com/example/attestry/attestry/BetaMixture$Beta", name := "<init>", desc := "(DD)V" } : Jvm.MethodName) prog_2_method_1_code (5 : Nat) (Option.none : Option Jvm.ClassFile.FieldType)).before args0 about1 = true := code_word (m := ⟨3, 0⟩) (meth := k3m0) (c := k3c0) (by decide +kernel) rfl rfl rfl (by decide +kernel)
set_option maxRecDepth 65536 in
theorem w_c2 : (Jvm.Cond.code ({ cls := "java/lang/Record", name := "<init>", desc := "()V" } : Jvm.MethodName) jdk_30_method_1_code (1 : Nat) (Option.none : Option Jvm.ClassFile.FieldType)).before args0 about1 = true := code_word (m := ⟨2, 0⟩) (meth := k2m0) (c := k2c0) (by decide +kernel) rfl rfl rfl (by decide +kernel)
set_option maxRecDepth 65536 in
theorem w_c3 : (Jvm.Cond.code ({ cls := "java/lang/Object", name := "<init>", desc := "()V" } : Jvm.MethodName) object_method_1_code (1 : Nat) (Option.none : Option Jvm.ClassFile.FieldType)).before args0 about1 = true := code_word (m := ⟨0, 0⟩) (meth := k0m0) (c := k0c0) (by decide +kernel) rfl rfl rfl (by decide +kernel)
set_option maxRecDepth 65536 in
theorem w_c4 : (Jvm.Cond.code ({ cls := "com/example/attestry/attestry/BetaMixture$Beta", name := "posteriorMean", desc := "(ID)D" } : Jvm.MethodName) prog_2_method_3_code (4 : Nat) (Option.some Jvm.ClassFile.FieldType.double)).before args0 about1 = true := code_word (m := ⟨3, 1⟩) (meth := k3m1) (c := k3c1) (by decide +kernel) rfl rfl rfl (by decide +kernel)
def codes1 : List Jvm.Cond := [Jvm.Cond.code x code maxLocals ret, Jvm.Cond.code ({ cls := "com/example/attestry/attestry/BetaMixture$Beta", name := "<init>", desc := "(DD)V" } : Jvm.MethodName) prog_2_method_1_code (5 : Nat) (Option.none : Option Jvm.ClassFile.FieldType), Jvm.Cond.code ({ cls := "java/lang/Record", name := "<init>", desc := "()V" } : Jvm.MethodName) jdk_30_method_1_code (1 : Nat) (Option.none : Option Jvm.ClassFile.FieldType), Jvm.Cond.code ({ cls := "java/lang/Object", name := "<init>", desc := "()V" } : Jvm.MethodName) object_method_1_code (1 : Nat) (Option.none : Option Jvm.ClassFile.FieldType), Jvm.Cond.code ({ cls := "com/example/attestry/attestry/BetaMixture$Beta", name := "posteriorMean", desc := "(ID)D" } : Jvm.MethodName) prog_2_method_3_code (4 : Nat) (Option.some Jvm.ClassFile.FieldType.double)]
set_option maxRecDepth 65536 in
theorem codes_eq : words1.filter isCode = codes1 := rfl
theorem w_codes : ∀ c ∈ words1.filter isCode, c.before args0 about1 = true := by
  rw [codes_eq]
  intro c hc
  simp only [codes1, List.mem_cons, List.not_mem_nil, or_false] at hc
  rcases hc with rfl | rfl | rfl | rfl | rfl
  · exact w_c0
  · exact w_c1
  · exact w_c2
  · exact w_c3
  · exact w_c4
set_option maxRecDepth 65536 in
theorem w_t1 : (words1.take 24).all (fun c => isCode c || c.before args0 about1) = true := by decide +kernel
set_option maxRecDepth 65536 in
theorem w_t2 : (words1.drop 24).all (fun c => isCode c || c.before args0 about1) = true := by decide +kernel
theorem w_tables : (allAtoms (Jvm.Cond.code x code maxLocals ret :: tables_1)).before args0 about1 = true := by
  rw [allAtoms_all]
  show words1.all (fun c => c.before args0 about1) = true
  refine all_split ?_ w_codes
  rw [← List.take_append_drop 24 words1, List.all_append, w_t1, w_t2]
  rfl
set_option maxRecDepth 65536 in
theorem w_case : (Jvm.Cond.and given_1 narrow_1).before args0 about1 = true := by decide +kernel
theorem w_applies : (headSpec (Jvm.Cond.code x code maxLocals ret :: tables_1) room_1).applies x e0.platform about1 = true :=
  (Spec.applies_iff w_frames).mpr ⟨w_running, w_runnable, w_alone, w_named, w_hears, w_ripe, w_room, w_tables⟩
theorem atStart : AtStart classFile x code maxLocals ret World_1 tables_1 room_1 Calls_1 rest_1 Pre_1 launch0 p0 e0 about1 theMethod args0 below0 :=
  ⟨lists_1, trivial, launch0.admits_env _ _ _, launch0.least_env, fairChoices_fair.cas, fairChoices_fair.clock, w_frames, w_args, w_heap, w_applies, trivial, trivial, w_case⟩
end start1
theorem witness_1 : WitnessClaimed_1 := ⟨start1.p0, start1.e0, start1.about1, start1.theMethod, start1.args0, start1.below0, start1.atStart⟩
end Jvm.Pilot.@@N@@

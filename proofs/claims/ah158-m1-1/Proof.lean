import JvmDerived
import JvmDerived.Pilot.@@N@@Statement
import JvmDerived.Pilot.@@N@@Code
set_option linter.unusedVariables false
set_option linter.unusedSimpArgs false
@@BLOCK:NumsL.lean.txt@@
namespace Jvm.RoadKit
open Sem ClassFile Op Lib Jvm.Stand Jvm.Free Jvm.LawKit
section New
variable {p : Program} {l : Launch} {e : Env} {R : Room} {s : State} {m : MethodId} {args : Array Value} {below : List Frame} {meth : Method} {c : Code} {T : State} {locs : List Loc} {cells slots : Nat}
theorem retI (X : Stand p l e R s m args below meth c T locs cells slots) (hx : p.tables.exec = Jvm.exec) {pc : Nat} {Ls : Array Slot} {z : Int32} {rest : List Value} (hret : meth.sig.returnType = some .int) (hd : decode c.code pc = .ok (.ireturn, 1)) {fs : List Frame}
    (hl : ∀ (f : JFrame) (acts : List Action), f.method = m → f.locked = none → f.entered = [] → (doReturn e (T.setTop f) acts (some (.int z))).1 = T.setFrames fs) : Steps p.tables e below (T.setTop (mkF m pc Ls (.int z :: rest))) (T.setFrames fs) := by
  have hm' : T.vm.method? m = some meth := X.method'
  have hn : narrow .int (.int z) = .int z := rfl
  show Steps p.tables e below (T.setTop { method := m, pc := pc, locals := Ls, stack := _ :: rest, locked := none }) _
  jvm_step X.here [X.here.top, hx, hd, hm', hret, hn]
  first | (intro acts; rw [hl _ acts rfl rfl rfl]) | rw [hl _ _ rfl rfl rfl]
  exact Steps.refl _
end New
end Jvm.RoadKit
namespace Jvm.Pilot.@@N@@
open Jvm Jvm.ClassFile Sem Op Lib Jvm.Free Jvm.Stand Jvm.LawKit Jvm.RoadKit Bundle Jvm.Pilot.@@N@@.Jvm.D
def own_D (d0 d1 d2 d3 : Int32) (k : Nat) : Int32 := if k = 0 then d0 else if k = 1 then d1 else if k = 2 then d2 else d3
theorem own_D_at (d0 d1 d2 d3 : Int32) (k : Nat) (h : k < 4) : ([(.int d0), (.int d1), (.int d2), (.int d3)] : List Value).getD k (.int (0 : Int32)) = .int (own_D d0 d1 d2 d3 k) := by
  match k, h with
  | 0, _ => rfl
  | 1, _ => rfl
  | 2, _ => rfl
  | 3, _ => rfl
def own_F (D : Nat → Int32) (o : Nat) : Nat → Nat → Int32
  | 0, _ => (0 : Int32)
  | k + 1, j => if (D (o + k) &&& (255 : Int32)).toNatClampNeg = j then own_F D o k j + (1 : Int32) else own_F D o k j
def own_L (F : Nat → Int32) : List Value := (List.range 256).map fun j => .int (F j)
theorem own_L_at (F : Nat → Int32) (j : Nat) (h : j < 256) : (own_L F).getD j (.int (0 : Int32)) = .int (F j) := by
  unfold own_L
  simp [List.getD, List.getElem?_map, List.getElem?_range, h]
theorem own_L_zero (D : Nat → Int32) (o : Nat) : ∀ i, (own_L (own_F D o 0)).getD i (.int (0 : Int32)) = ([] : List Value).getD i (.int (0 : Int32)) := by
  intro i
  by_cases h : i < 256
  · rw [own_L_at _ _ h]; rfl
  · have : (own_L (own_F D o 0))[i]? = none := by
      unfold own_L
      simp
      omega
    rw [List.getD, this]; rfl
theorem own_L_len (F : Nat → Int32) : (own_L F).length = 256 := by simp [own_L]
theorem own_L_set (D : Nat → Int32) (o k b : Nat) (h : (D (o + k) &&& (255 : Int32)).toNatClampNeg = b) : (own_L (own_F D o k)).set b (.int (own_F D o k b + (1 : Int32))) = own_L (own_F D o (k + 1)) := by
  apply List.ext_getElem?
  intro i
  have hr : (List.range 256)[i]? = if i < 256 then some i else none := by
    by_cases hi : i < 256
    · rw [if_pos hi, List.getElem?_range hi]
    · rw [if_neg hi, List.getElem?_eq_none (by rw [List.length_range]; omega)]
  rw [List.getElem?_set]
  unfold own_L
  rw [List.getElem?_map, List.getElem?_map, hr, List.length_map, List.length_range]
  by_cases q : b = i
  · subst q
    rw [if_pos rfl]
    by_cases hi : b < 256
    · rw [if_pos hi, if_pos hi]; simp [own_F, h]
    · rw [if_neg hi, if_neg hi]; rfl
  · rw [if_neg q]
    by_cases hi : i < 256
    · rw [if_pos hi]; simp [own_F, h, q]
    · rw [if_neg hi]; rfl
theorem own_b (x : Int32) : ¬ (x &&& (255 : Int32)) < 0 ∧ (x &&& (255 : Int32)) < (256 : Int32) ∧ (x &&& (255 : Int32)).toNatClampNeg < 256 := by
  have e : (x &&& (255 : Int32)).toInt = x.toInt % 2 ^ 8 := Jvm.Kit.i32_mask x 255 (k := 8) (by decide) (by decide)
  have k0 : (0 : Int32).toInt = 0 := by decide
  have k1 : (256 : Int32).toInt = 256 := by decide
  refine ⟨by rw [Int32.lt_iff_toInt_lt, k0]; omega, by rw [Int32.lt_iff_toInt_lt, k1]; omega, ?_⟩
  show (x &&& (255 : Int32)).toInt.toNat < 256
  omega
theorem own_nat {n : Nat} (h : n < 1000) : (Int32.ofNat n).toInt = n := Int32.toInt_ofNat_of_lt (by omega)
theorem own_i {n : Nat} (h : n < 4) : ¬ Int32.ofNat n < 0 ∧ Int32.ofNat n < (4 : Int32) ∧ (Int32.ofNat n).toNatClampNeg = n := by
  have e := own_nat (n := n) (by omega)
  have k0 : (0 : Int32).toInt = 0 := by decide
  have k1 : (4 : Int32).toInt = 4 := by decide
  refine ⟨by rw [Int32.lt_iff_toInt_lt, k0]; omega, by rw [Int32.lt_iff_toInt_lt, k1]; omega, ?_⟩
  show (Int32.ofNat n).toInt.toNat = n
  omega
theorem own_lt {o n k : Nat} (h : o + n ≤ 4) : Int32.ofNat (o + k) < (Int32.ofNat o + Int32.ofNat n) ↔ (k < n ∨ 1000 ≤ o + k ∧ Int32.ofNat (o + k) < (Int32.ofNat o + Int32.ofNat n)) := by
  by_cases q : 1000 ≤ o + k
  · constructor
    · intro r; exact Or.inr ⟨q, r⟩
    · intro r
      rcases r with r | r
      · omega
      · exact r.2
  · have e1 := own_nat (n := o + k) (by omega)
    have e2 := own_nat (n := o) (by omega)
    have e3 := own_nat (n := n) (by omega)
    rw [Int32.lt_iff_toInt_lt, Jvm.Kit.i32_add (by omega) (by omega), e1, e2, e3]
    omega
theorem own_go {o n k : Nat} (h : o + n ≤ 4) (q : k < n) : Int32.ofNat (o + k) < (Int32.ofNat o + Int32.ofNat n) := (own_lt h).mpr (Or.inl q)
theorem own_end {o n : Nat} (h : o + n ≤ 4) : ¬ Int32.ofNat (o + n) < (Int32.ofNat o + Int32.ofNat n) := fun q => by
  rcases (own_lt h).mp q with r | r <;> omega
theorem own_succ (o k : Nat) : Int32.ofNat (o + k) + (1 : Int32) = Int32.ofNat (o + (k + 1)) := Int32.ofNat_succ (o + k)
theorem d3_0 : decode method_3_code 0 = .ok (.iload_n 2, 1) := by decide +kernel
theorem d3_1 : decode method_3_code 1 = .ok (.iload_n 1, 1) := by decide +kernel
theorem d3_2 : decode method_3_code 2 = .ok (.if_icmp .gt 24, 3) := by decide +kernel
theorem d3_5 : decode method_3_code 5 = .ok (.iload_n 1, 1) := by decide +kernel
theorem d3_6 : decode method_3_code 6 = .ok (.iload_n 2, 1) := by decide +kernel
theorem d3_7 : decode method_3_code 7 = .ok (.iload_n 3, 1) := by decide +kernel
theorem d3_8 : decode method_3_code 8 = .ok (.iadd, 1) := by decide +kernel
theorem d3_9 : decode method_3_code 9 = .ok (.if_icmp .ge 17, 3) := by decide +kernel
theorem d3_12 : decode method_3_code 12 = .ok (.aload_n 0, 1) := by decide +kernel
theorem d3_13 : decode method_3_code 13 = .ok (.iload_n 1, 1) := by decide +kernel
theorem d3_14 : decode method_3_code 14 = .ok (.baload, 1) := by decide +kernel
theorem d3_15 : decode method_3_code 15 = .ok (.sipush 255, 3) := by decide +kernel
theorem d3_18 : decode method_3_code 18 = .ok (.iand, 1) := by decide +kernel
theorem d3_19 : decode method_3_code 19 = .ok (.iload 4, 2) := by decide +kernel
theorem d3_21 : decode method_3_code 21 = .ok (.if_icmp .ne 5, 3) := by decide +kernel
theorem d3_24 : decode method_3_code 24 = .ok (.iconst 1, 1) := by decide +kernel
theorem d3_25 : decode method_3_code 25 = .ok (.ireturn, 1) := by decide +kernel
theorem d3_26 : decode method_3_code 26 = .ok (.iconst 0, 1) := by decide +kernel
theorem d3_27 : decode method_3_code 27 = .ok (.ireturn, 1) := by decide +kernel
theorem pn_3 : plainName "com/example/leafweight/leafweight/BlockCodeCountPinLaw" = true := by first | (simp [plainName, overriddenIn]; done) | decide +kernel
theorem pd_0 : parseMethodDescriptor "([BII)[I" = some ⟨[(.array .byte), .int, .int], some (.array .int)⟩ := by decide +kernel
theorem pd_1 : parseMethodDescriptor "([BIII)I" = some ⟨[(.array .byte), .int, .int, .int], some .int⟩ := by decide +kernel
theorem pd_2 : parseMethodDescriptor "([BIIII)I" = some ⟨[(.array .byte), .int, .int, .int, .int], some .int⟩ := by decide +kernel
theorem ef_3 (m : MethodId) (x0 : Addr) (x1 : Int32) (x2 : Int32) (x3 : Int32) (x4 : Int32) : entryFrame m #[(.ref x0), (.int x1), (.int x2), (.int x3), (.int x4)] 5 = mkF m 0 #[.val (.ref x0), .val (.int x1), .val (.int x2), .val (.int x3), .val (.int x4)] [] := by first | (simp [entryFrame, mkF, argsToLocals, Value.category]; done) | rfl
def f3_0 (p2 : Int32) (p3 : Int32) (p4 : Int32) (d0 : Int32) : Int32 := if (0 : Int32) < p2 then (0 : Int32) else if (0 : Int32) < (p2 + p3) then (if (d0 &&& (255 : Int32)) = p4 then (1 : Int32) else (0 : Int32)) else (0 : Int32)
def Q3_0 (p2 : Int32) (p3 : Int32) (p4 : Int32) (d0 : Int32) (h0 : Heap) (n0 : Nat) (v : Option Value) (h : Heap) (L : List Loc) : Prop := v = some (.int (f3_0 p2 p3 p4 d0)) ∧ Fr n0 L ∧ h = h0
set_option maxRecDepth 65536 in
set_option maxHeartbeats 40000000 in
theorem rm3_0 (l : Launch) (Z : State) (aZ : Array Value) (hw : ∀ d ∈ tables_1, d.before aZ Z = true) (ws : List Jvm.Cond) (a0 : Addr) (p2 : Int32) (p3 : Int32) (p4 : Int32) (kd : ClassId) (d0 d1 d2 d3 : Int32) (h0 : Heap) (n0 : Nat) (Z0 : n0 ≤ h0.size) (V_a : Arv Z h0 a0 kd .byte (4 : Int32) [(.int d0), (.int d1), (.int d2), (.int d3)] (.int (0 : Int32))) :
    MetFree l (⟨"com/example/leafweight/leafweight/BlockCodeCountPinLaw", "hit", "([BIIII)I"⟩ : MethodName) (head1 (Jvm.Cond.code (⟨"com/example/leafweight/leafweight/BlockCodeCountPinLaw", "hit", "([BIIII)I"⟩ : MethodName) method_3_code 5 (some .int) :: ws) ({ frames := 0, cells := 0, slots := 0, locals := 0 } : Room)) (fun a U => a = #[(.ref a0), (.int (0 : Int32)), (.int p2), (.int p3), (.int p4)] ∧ Z.Warmed39 U.vm ∧ U.heap = h0) (fun _ _ _ _ _ => True) (fun _ U oc U' => ∃ v L, oc = .returned v ∧ Q3_0 p2 p3 p4 d0 h0 n0 v U'.heap L ∧ FrameEnd U oc U' L ({ frames := 0, cells := 0, slots := 0, locals := 0 } : Room).cells ({ frames := 0, cells := 0, slots := 0, locals := 0 } : Room).slots) := by
  refine MetFree.of_bodySF (plainFor_of_name pn_3) hisR ?_
  intro p e s m args below meth c s₁ Bd hml0 hP hK
  obtain ⟨rfl, hZ, hh⟩ := hP
  have hx := Bd.exec
  have hby := Bd.bytes
  have hml : c.maxLocals = 5 := hml0
  have hown : s.vm.findClass "com/example/leafweight/leafweight/BlockCodeCountPinLaw" = some m.cls := findClass_of_methodNamed Bd.named
  have hnm := (name_of_methodNamed Bd.named Bd.method).1
  have X0 : Stand p l e ({ frames := 0, cells := 0, slots := 0, locals := 0 } : Room) s m #[(.ref a0), (.int (0 : Int32)), (.int p2), (.int p3), (.int p4)] below meth c s₁ [] 0 0 := Stand.of_body Bd
  have e0 : s₁.heap = h0 := by rw [← hh, Bd.state]; rfl
  have N0 := Fr.nil n0
  have pre0 : ∀ t, Steps p.tables e below (s₁.setTop (mkF m 0 #[.val (.ref a0), .val (.int (0 : Int32)), .val (.int p2), .val (.int p3), .val (.int p4)] [])) t → Steps p.tables e below (s₁.setTop (entryFrame m #[(.ref a0), (.int (0 : Int32)), (.int p2), (.int p3), (.int p4)] 5)) t := fun t kt => castTop (ef_3 m a0 (0 : Int32) p2 p3 p4) kt
  have pre20 : ∀ t, Steps p.tables e below (s₁.setTop (mkF m 2 #[.val (.ref a0), .val (.int (0 : Int32)), .val (.int p2), .val (.int p3), .val (.int p4)] [(.int (0 : Int32)), (.int p2)])) t → Steps p.tables e below (s₁.setTop (entryFrame m #[(.ref a0), (.int (0 : Int32)), (.int p2), (.int p3), (.int p4)] 5)) t := fun t kt => by
    refine pre0 _ ?_
    show Steps p.tables e below (s₁.setTop (mkF m 0 #[.val (.ref a0), .val (.int (0 : Int32)), .val (.int p2), .val (.int p3), .val (.int p4)] [])) _
    refine XS.iloadN X0.here hx rfl (hb hby d3_0) rfl ?_
    show Steps p.tables e below (s₁.setTop (mkF m 1 #[.val (.ref a0), .val (.int (0 : Int32)), .val (.int p2), .val (.int p3), .val (.int p4)] [(.int p2)])) _
    refine XS.iloadN X0.here hx rfl (hb hby d3_1) rfl ?_
    show Steps p.tables e below (s₁.setTop (mkF m 2 #[.val (.ref a0), .val (.int (0 : Int32)), .val (.int p2), .val (.int p3), .val (.int p4)] [(.int (0 : Int32)), (.int p2)])) _
    exact kt
  by_cases c21 : (0 : Int32) < p2
  · have pre22 : ∀ t, Steps p.tables e below (s₁.setTop (mkF m 26 #[.val (.ref a0), .val (.int (0 : Int32)), .val (.int p2), .val (.int p3), .val (.int p4)] [])) t → Steps p.tables e below (s₁.setTop (entryFrame m #[(.ref a0), (.int (0 : Int32)), (.int p2), (.int p3), (.int p4)] 5)) t := fun t kt => by
      refine pre20 _ ?_
      show Steps p.tables e below (s₁.setTop (mkF m 2 #[.val (.ref a0), .val (.int (0 : Int32)), .val (.int p2), .val (.int p3), .val (.int p4)] [(.int (0 : Int32)), (.int p2)])) _
      refine XS.icmpYes X0.here hx rfl (pc0 := 2) (pc' := 26) rfl (hb hby d3_2) rfl (tlt c21).2.2.1 (by decide) (by decide) ?_
      show Steps p.tables e below (s₁.setTop (mkF m 26 #[.val (.ref a0), .val (.int (0 : Int32)), .val (.int p2), .val (.int p3), .val (.int p4)] [])) _
      exact kt
    have pre23 : ∀ t, Steps p.tables e below (s₁.setTop (mkF m 27 #[.val (.ref a0), .val (.int (0 : Int32)), .val (.int p2), .val (.int p3), .val (.int p4)] [(.int (0 : Int32))])) t → Steps p.tables e below (s₁.setTop (entryFrame m #[(.ref a0), (.int (0 : Int32)), (.int p2), (.int p3), (.int p4)] 5)) t := fun t kt => by
      refine pre22 _ ?_
      show Steps p.tables e below (s₁.setTop (mkF m 26 #[.val (.ref a0), .val (.int (0 : Int32)), .val (.int p2), .val (.int p3), .val (.int p4)] [])) _
      refine XS.iconst X0.here hx rfl (hb hby d3_26) ?_
      show Steps p.tables e below (s₁.setTop (mkF m 27 #[.val (.ref a0), .val (.int (0 : Int32)), .val (.int p2), .val (.int p3), .val (.int p4)] [(.int (0 : Int32))])) _
      exact kt
    obtain ⟨fs, hr, hrun, hended, hW, hsame⟩ := X0.leave (v := some (.int (0 : Int32))) (fun h => by rw [Bd.returns] at h; cases h)
    refine ⟨_, _, pre23 _ ?_, hrun, hended, _, _, rfl, ?_, ⟨_, rfl⟩, hW, hsame.mono (by decide) (by decide)⟩
    · show Steps p.tables e below (s₁.setTop (mkF m 27 #[.val (.ref a0), .val (.int (0 : Int32)), .val (.int p2), .val (.int p3), .val (.int p4)] [(.int (0 : Int32))])) _
      exact retI X0 hx Bd.returns (hb hby d3_27) hr
    · have hv : f3_0 p2 p3 p4 d0 = (0 : Int32) := by unfold f3_0; rw [if_pos c21]
      show Q3_0 p2 p3 p4 d0 h0 n0 _ s₁.heap _
      rw [e0]
      exact ⟨by rw [hv], N0, rfl⟩
  · have pre24 : ∀ t, Steps p.tables e below (s₁.setTop (mkF m 5 #[.val (.ref a0), .val (.int (0 : Int32)), .val (.int p2), .val (.int p3), .val (.int p4)] [])) t → Steps p.tables e below (s₁.setTop (entryFrame m #[(.ref a0), (.int (0 : Int32)), (.int p2), (.int p3), (.int p4)] 5)) t := fun t kt => by
      refine pre20 _ ?_
      show Steps p.tables e below (s₁.setTop (mkF m 2 #[.val (.ref a0), .val (.int (0 : Int32)), .val (.int p2), .val (.int p3), .val (.int p4)] [(.int (0 : Int32)), (.int p2)])) _
      refine XS.icmpNo X0.here hx rfl (hb hby d3_2) rfl (flt c21).2.2.1 ?_
      show Steps p.tables e below (s₁.setTop (mkF m 5 #[.val (.ref a0), .val (.int (0 : Int32)), .val (.int p2), .val (.int p3), .val (.int p4)] [])) _
      exact kt
    have pre25 : ∀ t, Steps p.tables e below (s₁.setTop (mkF m 9 #[.val (.ref a0), .val (.int (0 : Int32)), .val (.int p2), .val (.int p3), .val (.int p4)] [(.int (p2 + p3)), (.int (0 : Int32))])) t → Steps p.tables e below (s₁.setTop (entryFrame m #[(.ref a0), (.int (0 : Int32)), (.int p2), (.int p3), (.int p4)] 5)) t := fun t kt => by
      refine pre24 _ ?_
      show Steps p.tables e below (s₁.setTop (mkF m 5 #[.val (.ref a0), .val (.int (0 : Int32)), .val (.int p2), .val (.int p3), .val (.int p4)] [])) _
      refine XS.iloadN X0.here hx rfl (hb hby d3_5) rfl ?_
      show Steps p.tables e below (s₁.setTop (mkF m 6 #[.val (.ref a0), .val (.int (0 : Int32)), .val (.int p2), .val (.int p3), .val (.int p4)] [(.int (0 : Int32))])) _
      refine XS.iloadN X0.here hx rfl (hb hby d3_6) rfl ?_
      show Steps p.tables e below (s₁.setTop (mkF m 7 #[.val (.ref a0), .val (.int (0 : Int32)), .val (.int p2), .val (.int p3), .val (.int p4)] [(.int p2), (.int (0 : Int32))])) _
      refine XS.iloadN X0.here hx rfl (hb hby d3_7) rfl ?_
      show Steps p.tables e below (s₁.setTop (mkF m 8 #[.val (.ref a0), .val (.int (0 : Int32)), .val (.int p2), .val (.int p3), .val (.int p4)] [(.int p3), (.int p2), (.int (0 : Int32))])) _
      refine XS.iadd X0.here hx rfl (hb hby d3_8) rfl ?_
      show Steps p.tables e below (s₁.setTop (mkF m 9 #[.val (.ref a0), .val (.int (0 : Int32)), .val (.int p2), .val (.int p3), .val (.int p4)] [(.int (p2 + p3)), (.int (0 : Int32))])) _
      exact kt
    by_cases c26 : (0 : Int32) < (p2 + p3)
    · have pre27 : ∀ t, Steps p.tables e below (s₁.setTop (mkF m 12 #[.val (.ref a0), .val (.int (0 : Int32)), .val (.int p2), .val (.int p3), .val (.int p4)] [])) t → Steps p.tables e below (s₁.setTop (entryFrame m #[(.ref a0), (.int (0 : Int32)), (.int p2), (.int p3), (.int p4)] 5)) t := fun t kt => by
        refine pre25 _ ?_
        show Steps p.tables e below (s₁.setTop (mkF m 9 #[.val (.ref a0), .val (.int (0 : Int32)), .val (.int p2), .val (.int p3), .val (.int p4)] [(.int (p2 + p3)), (.int (0 : Int32))])) _
        refine XS.icmpNo X0.here hx rfl (hb hby d3_9) rfl (tlt c26).2.1 ?_
        show Steps p.tables e below (s₁.setTop (mkF m 12 #[.val (.ref a0), .val (.int (0 : Int32)), .val (.int p2), .val (.int p3), .val (.int p4)] [])) _
        exact kt
      have pre28 : ∀ t, Steps p.tables e below (s₁.setTop (mkF m 14 #[.val (.ref a0), .val (.int (0 : Int32)), .val (.int p2), .val (.int p3), .val (.int p4)] [(.int (0 : Int32)), (.ref a0)])) t → Steps p.tables e below (s₁.setTop (entryFrame m #[(.ref a0), (.int (0 : Int32)), (.int p2), (.int p3), (.int p4)] 5)) t := fun t kt => by
        refine pre27 _ ?_
        show Steps p.tables e below (s₁.setTop (mkF m 12 #[.val (.ref a0), .val (.int (0 : Int32)), .val (.int p2), .val (.int p3), .val (.int p4)] [])) _
        refine XS.aloadN X0.here hx rfl (hb hby d3_12) rfl rfl ?_
        show Steps p.tables e below (s₁.setTop (mkF m 13 #[.val (.ref a0), .val (.int (0 : Int32)), .val (.int p2), .val (.int p3), .val (.int p4)] [(.ref a0)])) _
        refine XS.iloadN X0.here hx rfl (hb hby d3_13) rfl ?_
        show Steps p.tables e below (s₁.setTop (mkF m 14 #[.val (.ref a0), .val (.int (0 : Int32)), .val (.int p2), .val (.int p3), .val (.int p4)] [(.int (0 : Int32)), (.ref a0)])) _
        exact kt
      have Vo_a0_29 := V_a
      obtain ⟨cl_a0_29, Ar_a0_29, q_a0_29, S_a0_29, M_a0_29, H_a0_29, G_a0_29⟩ := Vo_a0_29
      have hin29 : ¬ ((0 : Int32) < 0 ∨ cl_a0_29.slots.size ≤ ((0 : Int32)).toNatClampNeg) := inb_of S_a0_29 ⟨by decide, by decide⟩
      have hat29 : cl_a0_29.slots[((0 : Int32)).toNatClampNeg]? = some (.int d0) := H_a0_29.at hin29 rfl
      have pre30 : ∀ t, Steps p.tables e below (s₁.setTop (mkF m 15 #[.val (.ref a0), .val (.int (0 : Int32)), .val (.int p2), .val (.int p3), .val (.int p4)] [(.int d0)])) t → Steps p.tables e below (s₁.setTop (entryFrame m #[(.ref a0), (.int (0 : Int32)), (.int p2), (.int p3), (.int p4)] 5)) t := fun t kt => pre28 _ (X0.baloadBytes hx (j := (0 : Int32)) (v := (.int d0)) (by rw [e0]; exact Ar_a0_29.1) (State.isArrayOf_alike hZ.alike Ar_a0_29.2.1) Ar_a0_29.2.2 hin29 hat29 (g := (mkF m 14 #[.val (.ref a0), .val (.int (0 : Int32)), .val (.int p2), .val (.int p3), .val (.int p4)] [(.int (0 : Int32)), (.ref a0)])) rfl rfl (hb hby d3_14) t kt)
      have pre31 : ∀ t, Steps p.tables e below (s₁.setTop (mkF m 21 #[.val (.ref a0), .val (.int (0 : Int32)), .val (.int p2), .val (.int p3), .val (.int p4)] [(.int p4), (.int (d0 &&& (255 : Int32)))])) t → Steps p.tables e below (s₁.setTop (entryFrame m #[(.ref a0), (.int (0 : Int32)), (.int p2), (.int p3), (.int p4)] 5)) t := fun t kt => by
        refine pre30 _ ?_
        show Steps p.tables e below (s₁.setTop (mkF m 15 #[.val (.ref a0), .val (.int (0 : Int32)), .val (.int p2), .val (.int p3), .val (.int p4)] [(.int d0)])) _
        refine XS.sipush X0.here hx rfl (hb hby d3_15) ?_
        show Steps p.tables e below (s₁.setTop (mkF m 18 #[.val (.ref a0), .val (.int (0 : Int32)), .val (.int p2), .val (.int p3), .val (.int p4)] [(.int (255 : Int32)), (.int d0)])) _
        refine XS.iand X0.here hx rfl (hb hby d3_18) rfl ?_
        show Steps p.tables e below (s₁.setTop (mkF m 19 #[.val (.ref a0), .val (.int (0 : Int32)), .val (.int p2), .val (.int p3), .val (.int p4)] [(.int (d0 &&& (255 : Int32)))])) _
        refine XS.iload X0.here hx rfl (hb hby d3_19) rfl ?_
        show Steps p.tables e below (s₁.setTop (mkF m 21 #[.val (.ref a0), .val (.int (0 : Int32)), .val (.int p2), .val (.int p3), .val (.int p4)] [(.int p4), (.int (d0 &&& (255 : Int32)))])) _
        exact kt
      by_cases c32 : (d0 &&& (255 : Int32)) = p4
      · have pre33 : ∀ t, Steps p.tables e below (s₁.setTop (mkF m 24 #[.val (.ref a0), .val (.int (0 : Int32)), .val (.int p2), .val (.int p3), .val (.int p4)] [])) t → Steps p.tables e below (s₁.setTop (entryFrame m #[(.ref a0), (.int (0 : Int32)), (.int p2), (.int p3), (.int p4)] 5)) t := fun t kt => by
          refine pre31 _ ?_
          show Steps p.tables e below (s₁.setTop (mkF m 21 #[.val (.ref a0), .val (.int (0 : Int32)), .val (.int p2), .val (.int p3), .val (.int p4)] [(.int p4), (.int (d0 &&& (255 : Int32)))])) _
          refine XS.icmpNo X0.here hx rfl (hb hby d3_21) rfl (teq c32).2 ?_
          show Steps p.tables e below (s₁.setTop (mkF m 24 #[.val (.ref a0), .val (.int (0 : Int32)), .val (.int p2), .val (.int p3), .val (.int p4)] [])) _
          exact kt
        have pre34 : ∀ t, Steps p.tables e below (s₁.setTop (mkF m 25 #[.val (.ref a0), .val (.int (0 : Int32)), .val (.int p2), .val (.int p3), .val (.int p4)] [(.int (1 : Int32))])) t → Steps p.tables e below (s₁.setTop (entryFrame m #[(.ref a0), (.int (0 : Int32)), (.int p2), (.int p3), (.int p4)] 5)) t := fun t kt => by
          refine pre33 _ ?_
          show Steps p.tables e below (s₁.setTop (mkF m 24 #[.val (.ref a0), .val (.int (0 : Int32)), .val (.int p2), .val (.int p3), .val (.int p4)] [])) _
          refine XS.iconst X0.here hx rfl (hb hby d3_24) ?_
          show Steps p.tables e below (s₁.setTop (mkF m 25 #[.val (.ref a0), .val (.int (0 : Int32)), .val (.int p2), .val (.int p3), .val (.int p4)] [(.int (1 : Int32))])) _
          exact kt
        obtain ⟨fs, hr, hrun, hended, hW, hsame⟩ := X0.leave (v := some (.int (1 : Int32))) (fun h => by rw [Bd.returns] at h; cases h)
        refine ⟨_, _, pre34 _ ?_, hrun, hended, _, _, rfl, ?_, ⟨_, rfl⟩, hW, hsame.mono (by decide) (by decide)⟩
        · show Steps p.tables e below (s₁.setTop (mkF m 25 #[.val (.ref a0), .val (.int (0 : Int32)), .val (.int p2), .val (.int p3), .val (.int p4)] [(.int (1 : Int32))])) _
          exact retI X0 hx Bd.returns (hb hby d3_25) hr
        · have hv : f3_0 p2 p3 p4 d0 = (1 : Int32) := by unfold f3_0; rw [if_neg c21, if_pos c26, if_pos c32]
          show Q3_0 p2 p3 p4 d0 h0 n0 _ s₁.heap _
          rw [e0]
          exact ⟨by rw [hv], N0, rfl⟩
      · have pre35 : ∀ t, Steps p.tables e below (s₁.setTop (mkF m 26 #[.val (.ref a0), .val (.int (0 : Int32)), .val (.int p2), .val (.int p3), .val (.int p4)] [])) t → Steps p.tables e below (s₁.setTop (entryFrame m #[(.ref a0), (.int (0 : Int32)), (.int p2), (.int p3), (.int p4)] 5)) t := fun t kt => by
          refine pre31 _ ?_
          show Steps p.tables e below (s₁.setTop (mkF m 21 #[.val (.ref a0), .val (.int (0 : Int32)), .val (.int p2), .val (.int p3), .val (.int p4)] [(.int p4), (.int (d0 &&& (255 : Int32)))])) _
          refine XS.icmpYes X0.here hx rfl (pc0 := 21) (pc' := 26) rfl (hb hby d3_21) rfl (feq c32).2 (by decide) (by decide) ?_
          show Steps p.tables e below (s₁.setTop (mkF m 26 #[.val (.ref a0), .val (.int (0 : Int32)), .val (.int p2), .val (.int p3), .val (.int p4)] [])) _
          exact kt
        have pre36 : ∀ t, Steps p.tables e below (s₁.setTop (mkF m 27 #[.val (.ref a0), .val (.int (0 : Int32)), .val (.int p2), .val (.int p3), .val (.int p4)] [(.int (0 : Int32))])) t → Steps p.tables e below (s₁.setTop (entryFrame m #[(.ref a0), (.int (0 : Int32)), (.int p2), (.int p3), (.int p4)] 5)) t := fun t kt => by
          refine pre35 _ ?_
          show Steps p.tables e below (s₁.setTop (mkF m 26 #[.val (.ref a0), .val (.int (0 : Int32)), .val (.int p2), .val (.int p3), .val (.int p4)] [])) _
          refine XS.iconst X0.here hx rfl (hb hby d3_26) ?_
          show Steps p.tables e below (s₁.setTop (mkF m 27 #[.val (.ref a0), .val (.int (0 : Int32)), .val (.int p2), .val (.int p3), .val (.int p4)] [(.int (0 : Int32))])) _
          exact kt
        obtain ⟨fs, hr, hrun, hended, hW, hsame⟩ := X0.leave (v := some (.int (0 : Int32))) (fun h => by rw [Bd.returns] at h; cases h)
        refine ⟨_, _, pre36 _ ?_, hrun, hended, _, _, rfl, ?_, ⟨_, rfl⟩, hW, hsame.mono (by decide) (by decide)⟩
        · show Steps p.tables e below (s₁.setTop (mkF m 27 #[.val (.ref a0), .val (.int (0 : Int32)), .val (.int p2), .val (.int p3), .val (.int p4)] [(.int (0 : Int32))])) _
          exact retI X0 hx Bd.returns (hb hby d3_27) hr
        · have hv : f3_0 p2 p3 p4 d0 = (0 : Int32) := by unfold f3_0; rw [if_neg c21, if_pos c26, if_neg c32]
          show Q3_0 p2 p3 p4 d0 h0 n0 _ s₁.heap _
          rw [e0]
          exact ⟨by rw [hv], N0, rfl⟩
    · have pre37 : ∀ t, Steps p.tables e below (s₁.setTop (mkF m 26 #[.val (.ref a0), .val (.int (0 : Int32)), .val (.int p2), .val (.int p3), .val (.int p4)] [])) t → Steps p.tables e below (s₁.setTop (entryFrame m #[(.ref a0), (.int (0 : Int32)), (.int p2), (.int p3), (.int p4)] 5)) t := fun t kt => by
        refine pre25 _ ?_
        show Steps p.tables e below (s₁.setTop (mkF m 9 #[.val (.ref a0), .val (.int (0 : Int32)), .val (.int p2), .val (.int p3), .val (.int p4)] [(.int (p2 + p3)), (.int (0 : Int32))])) _
        refine XS.icmpYes X0.here hx rfl (pc0 := 9) (pc' := 26) rfl (hb hby d3_9) rfl (flt c26).2.1 (by decide) (by decide) ?_
        show Steps p.tables e below (s₁.setTop (mkF m 26 #[.val (.ref a0), .val (.int (0 : Int32)), .val (.int p2), .val (.int p3), .val (.int p4)] [])) _
        exact kt
      have pre38 : ∀ t, Steps p.tables e below (s₁.setTop (mkF m 27 #[.val (.ref a0), .val (.int (0 : Int32)), .val (.int p2), .val (.int p3), .val (.int p4)] [(.int (0 : Int32))])) t → Steps p.tables e below (s₁.setTop (entryFrame m #[(.ref a0), (.int (0 : Int32)), (.int p2), (.int p3), (.int p4)] 5)) t := fun t kt => by
        refine pre37 _ ?_
        show Steps p.tables e below (s₁.setTop (mkF m 26 #[.val (.ref a0), .val (.int (0 : Int32)), .val (.int p2), .val (.int p3), .val (.int p4)] [])) _
        refine XS.iconst X0.here hx rfl (hb hby d3_26) ?_
        show Steps p.tables e below (s₁.setTop (mkF m 27 #[.val (.ref a0), .val (.int (0 : Int32)), .val (.int p2), .val (.int p3), .val (.int p4)] [(.int (0 : Int32))])) _
        exact kt
      obtain ⟨fs, hr, hrun, hended, hW, hsame⟩ := X0.leave (v := some (.int (0 : Int32))) (fun h => by rw [Bd.returns] at h; cases h)
      refine ⟨_, _, pre38 _ ?_, hrun, hended, _, _, rfl, ?_, ⟨_, rfl⟩, hW, hsame.mono (by decide) (by decide)⟩
      · show Steps p.tables e below (s₁.setTop (mkF m 27 #[.val (.ref a0), .val (.int (0 : Int32)), .val (.int p2), .val (.int p3), .val (.int p4)] [(.int (0 : Int32))])) _
        exact retI X0 hx Bd.returns (hb hby d3_27) hr
      · have hv : f3_0 p2 p3 p4 d0 = (0 : Int32) := by unfold f3_0; rw [if_neg c21, if_neg c26]
        show Q3_0 p2 p3 p4 d0 h0 n0 _ s₁.heap _
        rw [e0]
        exact ⟨by rw [hv], N0, rfl⟩
def f3_1 (p2 : Int32) (p3 : Int32) (p4 : Int32) (d1 : Int32) : Int32 := if (1 : Int32) < p2 then (0 : Int32) else if (1 : Int32) < (p2 + p3) then (if (d1 &&& (255 : Int32)) = p4 then (1 : Int32) else (0 : Int32)) else (0 : Int32)
def Q3_1 (p2 : Int32) (p3 : Int32) (p4 : Int32) (d1 : Int32) (h0 : Heap) (n0 : Nat) (v : Option Value) (h : Heap) (L : List Loc) : Prop := v = some (.int (f3_1 p2 p3 p4 d1)) ∧ Fr n0 L ∧ h = h0
set_option maxRecDepth 65536 in
set_option maxHeartbeats 40000000 in
theorem rm3_1 (l : Launch) (Z : State) (aZ : Array Value) (hw : ∀ d ∈ tables_1, d.before aZ Z = true) (ws : List Jvm.Cond) (a0 : Addr) (p2 : Int32) (p3 : Int32) (p4 : Int32) (kd : ClassId) (d0 d1 d2 d3 : Int32) (h0 : Heap) (n0 : Nat) (Z0 : n0 ≤ h0.size) (V_a : Arv Z h0 a0 kd .byte (4 : Int32) [(.int d0), (.int d1), (.int d2), (.int d3)] (.int (0 : Int32))) :
    MetFree l (⟨"com/example/leafweight/leafweight/BlockCodeCountPinLaw", "hit", "([BIIII)I"⟩ : MethodName) (head1 (Jvm.Cond.code (⟨"com/example/leafweight/leafweight/BlockCodeCountPinLaw", "hit", "([BIIII)I"⟩ : MethodName) method_3_code 5 (some .int) :: ws) ({ frames := 0, cells := 0, slots := 0, locals := 0 } : Room)) (fun a U => a = #[(.ref a0), (.int (1 : Int32)), (.int p2), (.int p3), (.int p4)] ∧ Z.Warmed39 U.vm ∧ U.heap = h0) (fun _ _ _ _ _ => True) (fun _ U oc U' => ∃ v L, oc = .returned v ∧ Q3_1 p2 p3 p4 d1 h0 n0 v U'.heap L ∧ FrameEnd U oc U' L ({ frames := 0, cells := 0, slots := 0, locals := 0 } : Room).cells ({ frames := 0, cells := 0, slots := 0, locals := 0 } : Room).slots) := by
  refine MetFree.of_bodySF (plainFor_of_name pn_3) hisR ?_
  intro p e s m args below meth c s₁ Bd hml0 hP hK
  obtain ⟨rfl, hZ, hh⟩ := hP
  have hx := Bd.exec
  have hby := Bd.bytes
  have hml : c.maxLocals = 5 := hml0
  have hown : s.vm.findClass "com/example/leafweight/leafweight/BlockCodeCountPinLaw" = some m.cls := findClass_of_methodNamed Bd.named
  have hnm := (name_of_methodNamed Bd.named Bd.method).1
  have X0 : Stand p l e ({ frames := 0, cells := 0, slots := 0, locals := 0 } : Room) s m #[(.ref a0), (.int (1 : Int32)), (.int p2), (.int p3), (.int p4)] below meth c s₁ [] 0 0 := Stand.of_body Bd
  have e0 : s₁.heap = h0 := by rw [← hh, Bd.state]; rfl
  have N0 := Fr.nil n0
  have pre0 : ∀ t, Steps p.tables e below (s₁.setTop (mkF m 0 #[.val (.ref a0), .val (.int (1 : Int32)), .val (.int p2), .val (.int p3), .val (.int p4)] [])) t → Steps p.tables e below (s₁.setTop (entryFrame m #[(.ref a0), (.int (1 : Int32)), (.int p2), (.int p3), (.int p4)] 5)) t := fun t kt => castTop (ef_3 m a0 (1 : Int32) p2 p3 p4) kt
  have pre58 : ∀ t, Steps p.tables e below (s₁.setTop (mkF m 2 #[.val (.ref a0), .val (.int (1 : Int32)), .val (.int p2), .val (.int p3), .val (.int p4)] [(.int (1 : Int32)), (.int p2)])) t → Steps p.tables e below (s₁.setTop (entryFrame m #[(.ref a0), (.int (1 : Int32)), (.int p2), (.int p3), (.int p4)] 5)) t := fun t kt => by
    refine pre0 _ ?_
    show Steps p.tables e below (s₁.setTop (mkF m 0 #[.val (.ref a0), .val (.int (1 : Int32)), .val (.int p2), .val (.int p3), .val (.int p4)] [])) _
    refine XS.iloadN X0.here hx rfl (hb hby d3_0) rfl ?_
    show Steps p.tables e below (s₁.setTop (mkF m 1 #[.val (.ref a0), .val (.int (1 : Int32)), .val (.int p2), .val (.int p3), .val (.int p4)] [(.int p2)])) _
    refine XS.iloadN X0.here hx rfl (hb hby d3_1) rfl ?_
    show Steps p.tables e below (s₁.setTop (mkF m 2 #[.val (.ref a0), .val (.int (1 : Int32)), .val (.int p2), .val (.int p3), .val (.int p4)] [(.int (1 : Int32)), (.int p2)])) _
    exact kt
  by_cases c59 : (1 : Int32) < p2
  · have pre60 : ∀ t, Steps p.tables e below (s₁.setTop (mkF m 26 #[.val (.ref a0), .val (.int (1 : Int32)), .val (.int p2), .val (.int p3), .val (.int p4)] [])) t → Steps p.tables e below (s₁.setTop (entryFrame m #[(.ref a0), (.int (1 : Int32)), (.int p2), (.int p3), (.int p4)] 5)) t := fun t kt => by
      refine pre58 _ ?_
      show Steps p.tables e below (s₁.setTop (mkF m 2 #[.val (.ref a0), .val (.int (1 : Int32)), .val (.int p2), .val (.int p3), .val (.int p4)] [(.int (1 : Int32)), (.int p2)])) _
      refine XS.icmpYes X0.here hx rfl (pc0 := 2) (pc' := 26) rfl (hb hby d3_2) rfl (tlt c59).2.2.1 (by decide) (by decide) ?_
      show Steps p.tables e below (s₁.setTop (mkF m 26 #[.val (.ref a0), .val (.int (1 : Int32)), .val (.int p2), .val (.int p3), .val (.int p4)] [])) _
      exact kt
    have pre61 : ∀ t, Steps p.tables e below (s₁.setTop (mkF m 27 #[.val (.ref a0), .val (.int (1 : Int32)), .val (.int p2), .val (.int p3), .val (.int p4)] [(.int (0 : Int32))])) t → Steps p.tables e below (s₁.setTop (entryFrame m #[(.ref a0), (.int (1 : Int32)), (.int p2), (.int p3), (.int p4)] 5)) t := fun t kt => by
      refine pre60 _ ?_
      show Steps p.tables e below (s₁.setTop (mkF m 26 #[.val (.ref a0), .val (.int (1 : Int32)), .val (.int p2), .val (.int p3), .val (.int p4)] [])) _
      refine XS.iconst X0.here hx rfl (hb hby d3_26) ?_
      show Steps p.tables e below (s₁.setTop (mkF m 27 #[.val (.ref a0), .val (.int (1 : Int32)), .val (.int p2), .val (.int p3), .val (.int p4)] [(.int (0 : Int32))])) _
      exact kt
    obtain ⟨fs, hr, hrun, hended, hW, hsame⟩ := X0.leave (v := some (.int (0 : Int32))) (fun h => by rw [Bd.returns] at h; cases h)
    refine ⟨_, _, pre61 _ ?_, hrun, hended, _, _, rfl, ?_, ⟨_, rfl⟩, hW, hsame.mono (by decide) (by decide)⟩
    · show Steps p.tables e below (s₁.setTop (mkF m 27 #[.val (.ref a0), .val (.int (1 : Int32)), .val (.int p2), .val (.int p3), .val (.int p4)] [(.int (0 : Int32))])) _
      exact retI X0 hx Bd.returns (hb hby d3_27) hr
    · have hv : f3_1 p2 p3 p4 d1 = (0 : Int32) := by unfold f3_1; rw [if_pos c59]
      show Q3_1 p2 p3 p4 d1 h0 n0 _ s₁.heap _
      rw [e0]
      exact ⟨by rw [hv], N0, rfl⟩
  · have pre62 : ∀ t, Steps p.tables e below (s₁.setTop (mkF m 5 #[.val (.ref a0), .val (.int (1 : Int32)), .val (.int p2), .val (.int p3), .val (.int p4)] [])) t → Steps p.tables e below (s₁.setTop (entryFrame m #[(.ref a0), (.int (1 : Int32)), (.int p2), (.int p3), (.int p4)] 5)) t := fun t kt => by
      refine pre58 _ ?_
      show Steps p.tables e below (s₁.setTop (mkF m 2 #[.val (.ref a0), .val (.int (1 : Int32)), .val (.int p2), .val (.int p3), .val (.int p4)] [(.int (1 : Int32)), (.int p2)])) _
      refine XS.icmpNo X0.here hx rfl (hb hby d3_2) rfl (flt c59).2.2.1 ?_
      show Steps p.tables e below (s₁.setTop (mkF m 5 #[.val (.ref a0), .val (.int (1 : Int32)), .val (.int p2), .val (.int p3), .val (.int p4)] [])) _
      exact kt
    have pre63 : ∀ t, Steps p.tables e below (s₁.setTop (mkF m 9 #[.val (.ref a0), .val (.int (1 : Int32)), .val (.int p2), .val (.int p3), .val (.int p4)] [(.int (p2 + p3)), (.int (1 : Int32))])) t → Steps p.tables e below (s₁.setTop (entryFrame m #[(.ref a0), (.int (1 : Int32)), (.int p2), (.int p3), (.int p4)] 5)) t := fun t kt => by
      refine pre62 _ ?_
      show Steps p.tables e below (s₁.setTop (mkF m 5 #[.val (.ref a0), .val (.int (1 : Int32)), .val (.int p2), .val (.int p3), .val (.int p4)] [])) _
      refine XS.iloadN X0.here hx rfl (hb hby d3_5) rfl ?_
      show Steps p.tables e below (s₁.setTop (mkF m 6 #[.val (.ref a0), .val (.int (1 : Int32)), .val (.int p2), .val (.int p3), .val (.int p4)] [(.int (1 : Int32))])) _
      refine XS.iloadN X0.here hx rfl (hb hby d3_6) rfl ?_
      show Steps p.tables e below (s₁.setTop (mkF m 7 #[.val (.ref a0), .val (.int (1 : Int32)), .val (.int p2), .val (.int p3), .val (.int p4)] [(.int p2), (.int (1 : Int32))])) _
      refine XS.iloadN X0.here hx rfl (hb hby d3_7) rfl ?_
      show Steps p.tables e below (s₁.setTop (mkF m 8 #[.val (.ref a0), .val (.int (1 : Int32)), .val (.int p2), .val (.int p3), .val (.int p4)] [(.int p3), (.int p2), (.int (1 : Int32))])) _
      refine XS.iadd X0.here hx rfl (hb hby d3_8) rfl ?_
      show Steps p.tables e below (s₁.setTop (mkF m 9 #[.val (.ref a0), .val (.int (1 : Int32)), .val (.int p2), .val (.int p3), .val (.int p4)] [(.int (p2 + p3)), (.int (1 : Int32))])) _
      exact kt
    by_cases c64 : (1 : Int32) < (p2 + p3)
    · have pre65 : ∀ t, Steps p.tables e below (s₁.setTop (mkF m 12 #[.val (.ref a0), .val (.int (1 : Int32)), .val (.int p2), .val (.int p3), .val (.int p4)] [])) t → Steps p.tables e below (s₁.setTop (entryFrame m #[(.ref a0), (.int (1 : Int32)), (.int p2), (.int p3), (.int p4)] 5)) t := fun t kt => by
        refine pre63 _ ?_
        show Steps p.tables e below (s₁.setTop (mkF m 9 #[.val (.ref a0), .val (.int (1 : Int32)), .val (.int p2), .val (.int p3), .val (.int p4)] [(.int (p2 + p3)), (.int (1 : Int32))])) _
        refine XS.icmpNo X0.here hx rfl (hb hby d3_9) rfl (tlt c64).2.1 ?_
        show Steps p.tables e below (s₁.setTop (mkF m 12 #[.val (.ref a0), .val (.int (1 : Int32)), .val (.int p2), .val (.int p3), .val (.int p4)] [])) _
        exact kt
      have pre66 : ∀ t, Steps p.tables e below (s₁.setTop (mkF m 14 #[.val (.ref a0), .val (.int (1 : Int32)), .val (.int p2), .val (.int p3), .val (.int p4)] [(.int (1 : Int32)), (.ref a0)])) t → Steps p.tables e below (s₁.setTop (entryFrame m #[(.ref a0), (.int (1 : Int32)), (.int p2), (.int p3), (.int p4)] 5)) t := fun t kt => by
        refine pre65 _ ?_
        show Steps p.tables e below (s₁.setTop (mkF m 12 #[.val (.ref a0), .val (.int (1 : Int32)), .val (.int p2), .val (.int p3), .val (.int p4)] [])) _
        refine XS.aloadN X0.here hx rfl (hb hby d3_12) rfl rfl ?_
        show Steps p.tables e below (s₁.setTop (mkF m 13 #[.val (.ref a0), .val (.int (1 : Int32)), .val (.int p2), .val (.int p3), .val (.int p4)] [(.ref a0)])) _
        refine XS.iloadN X0.here hx rfl (hb hby d3_13) rfl ?_
        show Steps p.tables e below (s₁.setTop (mkF m 14 #[.val (.ref a0), .val (.int (1 : Int32)), .val (.int p2), .val (.int p3), .val (.int p4)] [(.int (1 : Int32)), (.ref a0)])) _
        exact kt
      have Vo_a0_67 := V_a
      obtain ⟨cl_a0_67, Ar_a0_67, q_a0_67, S_a0_67, M_a0_67, H_a0_67, G_a0_67⟩ := Vo_a0_67
      have hin67 : ¬ ((1 : Int32) < 0 ∨ cl_a0_67.slots.size ≤ ((1 : Int32)).toNatClampNeg) := inb_of S_a0_67 ⟨by decide, by decide⟩
      have hat67 : cl_a0_67.slots[((1 : Int32)).toNatClampNeg]? = some (.int d1) := H_a0_67.at hin67 rfl
      have pre68 : ∀ t, Steps p.tables e below (s₁.setTop (mkF m 15 #[.val (.ref a0), .val (.int (1 : Int32)), .val (.int p2), .val (.int p3), .val (.int p4)] [(.int d1)])) t → Steps p.tables e below (s₁.setTop (entryFrame m #[(.ref a0), (.int (1 : Int32)), (.int p2), (.int p3), (.int p4)] 5)) t := fun t kt => pre66 _ (X0.baloadBytes hx (j := (1 : Int32)) (v := (.int d1)) (by rw [e0]; exact Ar_a0_67.1) (State.isArrayOf_alike hZ.alike Ar_a0_67.2.1) Ar_a0_67.2.2 hin67 hat67 (g := (mkF m 14 #[.val (.ref a0), .val (.int (1 : Int32)), .val (.int p2), .val (.int p3), .val (.int p4)] [(.int (1 : Int32)), (.ref a0)])) rfl rfl (hb hby d3_14) t kt)
      have pre69 : ∀ t, Steps p.tables e below (s₁.setTop (mkF m 21 #[.val (.ref a0), .val (.int (1 : Int32)), .val (.int p2), .val (.int p3), .val (.int p4)] [(.int p4), (.int (d1 &&& (255 : Int32)))])) t → Steps p.tables e below (s₁.setTop (entryFrame m #[(.ref a0), (.int (1 : Int32)), (.int p2), (.int p3), (.int p4)] 5)) t := fun t kt => by
        refine pre68 _ ?_
        show Steps p.tables e below (s₁.setTop (mkF m 15 #[.val (.ref a0), .val (.int (1 : Int32)), .val (.int p2), .val (.int p3), .val (.int p4)] [(.int d1)])) _
        refine XS.sipush X0.here hx rfl (hb hby d3_15) ?_
        show Steps p.tables e below (s₁.setTop (mkF m 18 #[.val (.ref a0), .val (.int (1 : Int32)), .val (.int p2), .val (.int p3), .val (.int p4)] [(.int (255 : Int32)), (.int d1)])) _
        refine XS.iand X0.here hx rfl (hb hby d3_18) rfl ?_
        show Steps p.tables e below (s₁.setTop (mkF m 19 #[.val (.ref a0), .val (.int (1 : Int32)), .val (.int p2), .val (.int p3), .val (.int p4)] [(.int (d1 &&& (255 : Int32)))])) _
        refine XS.iload X0.here hx rfl (hb hby d3_19) rfl ?_
        show Steps p.tables e below (s₁.setTop (mkF m 21 #[.val (.ref a0), .val (.int (1 : Int32)), .val (.int p2), .val (.int p3), .val (.int p4)] [(.int p4), (.int (d1 &&& (255 : Int32)))])) _
        exact kt
      by_cases c70 : (d1 &&& (255 : Int32)) = p4
      · have pre71 : ∀ t, Steps p.tables e below (s₁.setTop (mkF m 24 #[.val (.ref a0), .val (.int (1 : Int32)), .val (.int p2), .val (.int p3), .val (.int p4)] [])) t → Steps p.tables e below (s₁.setTop (entryFrame m #[(.ref a0), (.int (1 : Int32)), (.int p2), (.int p3), (.int p4)] 5)) t := fun t kt => by
          refine pre69 _ ?_
          show Steps p.tables e below (s₁.setTop (mkF m 21 #[.val (.ref a0), .val (.int (1 : Int32)), .val (.int p2), .val (.int p3), .val (.int p4)] [(.int p4), (.int (d1 &&& (255 : Int32)))])) _
          refine XS.icmpNo X0.here hx rfl (hb hby d3_21) rfl (teq c70).2 ?_
          show Steps p.tables e below (s₁.setTop (mkF m 24 #[.val (.ref a0), .val (.int (1 : Int32)), .val (.int p2), .val (.int p3), .val (.int p4)] [])) _
          exact kt
        have pre72 : ∀ t, Steps p.tables e below (s₁.setTop (mkF m 25 #[.val (.ref a0), .val (.int (1 : Int32)), .val (.int p2), .val (.int p3), .val (.int p4)] [(.int (1 : Int32))])) t → Steps p.tables e below (s₁.setTop (entryFrame m #[(.ref a0), (.int (1 : Int32)), (.int p2), (.int p3), (.int p4)] 5)) t := fun t kt => by
          refine pre71 _ ?_
          show Steps p.tables e below (s₁.setTop (mkF m 24 #[.val (.ref a0), .val (.int (1 : Int32)), .val (.int p2), .val (.int p3), .val (.int p4)] [])) _
          refine XS.iconst X0.here hx rfl (hb hby d3_24) ?_
          show Steps p.tables e below (s₁.setTop (mkF m 25 #[.val (.ref a0), .val (.int (1 : Int32)), .val (.int p2), .val (.int p3), .val (.int p4)] [(.int (1 : Int32))])) _
          exact kt
        obtain ⟨fs, hr, hrun, hended, hW, hsame⟩ := X0.leave (v := some (.int (1 : Int32))) (fun h => by rw [Bd.returns] at h; cases h)
        refine ⟨_, _, pre72 _ ?_, hrun, hended, _, _, rfl, ?_, ⟨_, rfl⟩, hW, hsame.mono (by decide) (by decide)⟩
        · show Steps p.tables e below (s₁.setTop (mkF m 25 #[.val (.ref a0), .val (.int (1 : Int32)), .val (.int p2), .val (.int p3), .val (.int p4)] [(.int (1 : Int32))])) _
          exact retI X0 hx Bd.returns (hb hby d3_25) hr
        · have hv : f3_1 p2 p3 p4 d1 = (1 : Int32) := by unfold f3_1; rw [if_neg c59, if_pos c64, if_pos c70]
          show Q3_1 p2 p3 p4 d1 h0 n0 _ s₁.heap _
          rw [e0]
          exact ⟨by rw [hv], N0, rfl⟩
      · have pre73 : ∀ t, Steps p.tables e below (s₁.setTop (mkF m 26 #[.val (.ref a0), .val (.int (1 : Int32)), .val (.int p2), .val (.int p3), .val (.int p4)] [])) t → Steps p.tables e below (s₁.setTop (entryFrame m #[(.ref a0), (.int (1 : Int32)), (.int p2), (.int p3), (.int p4)] 5)) t := fun t kt => by
          refine pre69 _ ?_
          show Steps p.tables e below (s₁.setTop (mkF m 21 #[.val (.ref a0), .val (.int (1 : Int32)), .val (.int p2), .val (.int p3), .val (.int p4)] [(.int p4), (.int (d1 &&& (255 : Int32)))])) _
          refine XS.icmpYes X0.here hx rfl (pc0 := 21) (pc' := 26) rfl (hb hby d3_21) rfl (feq c70).2 (by decide) (by decide) ?_
          show Steps p.tables e below (s₁.setTop (mkF m 26 #[.val (.ref a0), .val (.int (1 : Int32)), .val (.int p2), .val (.int p3), .val (.int p4)] [])) _
          exact kt
        have pre74 : ∀ t, Steps p.tables e below (s₁.setTop (mkF m 27 #[.val (.ref a0), .val (.int (1 : Int32)), .val (.int p2), .val (.int p3), .val (.int p4)] [(.int (0 : Int32))])) t → Steps p.tables e below (s₁.setTop (entryFrame m #[(.ref a0), (.int (1 : Int32)), (.int p2), (.int p3), (.int p4)] 5)) t := fun t kt => by
          refine pre73 _ ?_
          show Steps p.tables e below (s₁.setTop (mkF m 26 #[.val (.ref a0), .val (.int (1 : Int32)), .val (.int p2), .val (.int p3), .val (.int p4)] [])) _
          refine XS.iconst X0.here hx rfl (hb hby d3_26) ?_
          show Steps p.tables e below (s₁.setTop (mkF m 27 #[.val (.ref a0), .val (.int (1 : Int32)), .val (.int p2), .val (.int p3), .val (.int p4)] [(.int (0 : Int32))])) _
          exact kt
        obtain ⟨fs, hr, hrun, hended, hW, hsame⟩ := X0.leave (v := some (.int (0 : Int32))) (fun h => by rw [Bd.returns] at h; cases h)
        refine ⟨_, _, pre74 _ ?_, hrun, hended, _, _, rfl, ?_, ⟨_, rfl⟩, hW, hsame.mono (by decide) (by decide)⟩
        · show Steps p.tables e below (s₁.setTop (mkF m 27 #[.val (.ref a0), .val (.int (1 : Int32)), .val (.int p2), .val (.int p3), .val (.int p4)] [(.int (0 : Int32))])) _
          exact retI X0 hx Bd.returns (hb hby d3_27) hr
        · have hv : f3_1 p2 p3 p4 d1 = (0 : Int32) := by unfold f3_1; rw [if_neg c59, if_pos c64, if_neg c70]
          show Q3_1 p2 p3 p4 d1 h0 n0 _ s₁.heap _
          rw [e0]
          exact ⟨by rw [hv], N0, rfl⟩
    · have pre75 : ∀ t, Steps p.tables e below (s₁.setTop (mkF m 26 #[.val (.ref a0), .val (.int (1 : Int32)), .val (.int p2), .val (.int p3), .val (.int p4)] [])) t → Steps p.tables e below (s₁.setTop (entryFrame m #[(.ref a0), (.int (1 : Int32)), (.int p2), (.int p3), (.int p4)] 5)) t := fun t kt => by
        refine pre63 _ ?_
        show Steps p.tables e below (s₁.setTop (mkF m 9 #[.val (.ref a0), .val (.int (1 : Int32)), .val (.int p2), .val (.int p3), .val (.int p4)] [(.int (p2 + p3)), (.int (1 : Int32))])) _
        refine XS.icmpYes X0.here hx rfl (pc0 := 9) (pc' := 26) rfl (hb hby d3_9) rfl (flt c64).2.1 (by decide) (by decide) ?_
        show Steps p.tables e below (s₁.setTop (mkF m 26 #[.val (.ref a0), .val (.int (1 : Int32)), .val (.int p2), .val (.int p3), .val (.int p4)] [])) _
        exact kt
      have pre76 : ∀ t, Steps p.tables e below (s₁.setTop (mkF m 27 #[.val (.ref a0), .val (.int (1 : Int32)), .val (.int p2), .val (.int p3), .val (.int p4)] [(.int (0 : Int32))])) t → Steps p.tables e below (s₁.setTop (entryFrame m #[(.ref a0), (.int (1 : Int32)), (.int p2), (.int p3), (.int p4)] 5)) t := fun t kt => by
        refine pre75 _ ?_
        show Steps p.tables e below (s₁.setTop (mkF m 26 #[.val (.ref a0), .val (.int (1 : Int32)), .val (.int p2), .val (.int p3), .val (.int p4)] [])) _
        refine XS.iconst X0.here hx rfl (hb hby d3_26) ?_
        show Steps p.tables e below (s₁.setTop (mkF m 27 #[.val (.ref a0), .val (.int (1 : Int32)), .val (.int p2), .val (.int p3), .val (.int p4)] [(.int (0 : Int32))])) _
        exact kt
      obtain ⟨fs, hr, hrun, hended, hW, hsame⟩ := X0.leave (v := some (.int (0 : Int32))) (fun h => by rw [Bd.returns] at h; cases h)
      refine ⟨_, _, pre76 _ ?_, hrun, hended, _, _, rfl, ?_, ⟨_, rfl⟩, hW, hsame.mono (by decide) (by decide)⟩
      · show Steps p.tables e below (s₁.setTop (mkF m 27 #[.val (.ref a0), .val (.int (1 : Int32)), .val (.int p2), .val (.int p3), .val (.int p4)] [(.int (0 : Int32))])) _
        exact retI X0 hx Bd.returns (hb hby d3_27) hr
      · have hv : f3_1 p2 p3 p4 d1 = (0 : Int32) := by unfold f3_1; rw [if_neg c59, if_neg c64]
        show Q3_1 p2 p3 p4 d1 h0 n0 _ s₁.heap _
        rw [e0]
        exact ⟨by rw [hv], N0, rfl⟩
def f3_2 (p2 : Int32) (p3 : Int32) (p4 : Int32) (d2 : Int32) : Int32 := if (2 : Int32) < p2 then (0 : Int32) else if (2 : Int32) < (p2 + p3) then (if (d2 &&& (255 : Int32)) = p4 then (1 : Int32) else (0 : Int32)) else (0 : Int32)
def Q3_2 (p2 : Int32) (p3 : Int32) (p4 : Int32) (d2 : Int32) (h0 : Heap) (n0 : Nat) (v : Option Value) (h : Heap) (L : List Loc) : Prop := v = some (.int (f3_2 p2 p3 p4 d2)) ∧ Fr n0 L ∧ h = h0
set_option maxRecDepth 65536 in
set_option maxHeartbeats 40000000 in
theorem rm3_2 (l : Launch) (Z : State) (aZ : Array Value) (hw : ∀ d ∈ tables_1, d.before aZ Z = true) (ws : List Jvm.Cond) (a0 : Addr) (p2 : Int32) (p3 : Int32) (p4 : Int32) (kd : ClassId) (d0 d1 d2 d3 : Int32) (h0 : Heap) (n0 : Nat) (Z0 : n0 ≤ h0.size) (V_a : Arv Z h0 a0 kd .byte (4 : Int32) [(.int d0), (.int d1), (.int d2), (.int d3)] (.int (0 : Int32))) :
    MetFree l (⟨"com/example/leafweight/leafweight/BlockCodeCountPinLaw", "hit", "([BIIII)I"⟩ : MethodName) (head1 (Jvm.Cond.code (⟨"com/example/leafweight/leafweight/BlockCodeCountPinLaw", "hit", "([BIIII)I"⟩ : MethodName) method_3_code 5 (some .int) :: ws) ({ frames := 0, cells := 0, slots := 0, locals := 0 } : Room)) (fun a U => a = #[(.ref a0), (.int (2 : Int32)), (.int p2), (.int p3), (.int p4)] ∧ Z.Warmed39 U.vm ∧ U.heap = h0) (fun _ _ _ _ _ => True) (fun _ U oc U' => ∃ v L, oc = .returned v ∧ Q3_2 p2 p3 p4 d2 h0 n0 v U'.heap L ∧ FrameEnd U oc U' L ({ frames := 0, cells := 0, slots := 0, locals := 0 } : Room).cells ({ frames := 0, cells := 0, slots := 0, locals := 0 } : Room).slots) := by
  refine MetFree.of_bodySF (plainFor_of_name pn_3) hisR ?_
  intro p e s m args below meth c s₁ Bd hml0 hP hK
  obtain ⟨rfl, hZ, hh⟩ := hP
  have hx := Bd.exec
  have hby := Bd.bytes
  have hml : c.maxLocals = 5 := hml0
  have hown : s.vm.findClass "com/example/leafweight/leafweight/BlockCodeCountPinLaw" = some m.cls := findClass_of_methodNamed Bd.named
  have hnm := (name_of_methodNamed Bd.named Bd.method).1
  have X0 : Stand p l e ({ frames := 0, cells := 0, slots := 0, locals := 0 } : Room) s m #[(.ref a0), (.int (2 : Int32)), (.int p2), (.int p3), (.int p4)] below meth c s₁ [] 0 0 := Stand.of_body Bd
  have e0 : s₁.heap = h0 := by rw [← hh, Bd.state]; rfl
  have N0 := Fr.nil n0
  have pre0 : ∀ t, Steps p.tables e below (s₁.setTop (mkF m 0 #[.val (.ref a0), .val (.int (2 : Int32)), .val (.int p2), .val (.int p3), .val (.int p4)] [])) t → Steps p.tables e below (s₁.setTop (entryFrame m #[(.ref a0), (.int (2 : Int32)), (.int p2), (.int p3), (.int p4)] 5)) t := fun t kt => castTop (ef_3 m a0 (2 : Int32) p2 p3 p4) kt
  have pre96 : ∀ t, Steps p.tables e below (s₁.setTop (mkF m 2 #[.val (.ref a0), .val (.int (2 : Int32)), .val (.int p2), .val (.int p3), .val (.int p4)] [(.int (2 : Int32)), (.int p2)])) t → Steps p.tables e below (s₁.setTop (entryFrame m #[(.ref a0), (.int (2 : Int32)), (.int p2), (.int p3), (.int p4)] 5)) t := fun t kt => by
    refine pre0 _ ?_
    show Steps p.tables e below (s₁.setTop (mkF m 0 #[.val (.ref a0), .val (.int (2 : Int32)), .val (.int p2), .val (.int p3), .val (.int p4)] [])) _
    refine XS.iloadN X0.here hx rfl (hb hby d3_0) rfl ?_
    show Steps p.tables e below (s₁.setTop (mkF m 1 #[.val (.ref a0), .val (.int (2 : Int32)), .val (.int p2), .val (.int p3), .val (.int p4)] [(.int p2)])) _
    refine XS.iloadN X0.here hx rfl (hb hby d3_1) rfl ?_
    show Steps p.tables e below (s₁.setTop (mkF m 2 #[.val (.ref a0), .val (.int (2 : Int32)), .val (.int p2), .val (.int p3), .val (.int p4)] [(.int (2 : Int32)), (.int p2)])) _
    exact kt
  by_cases c97 : (2 : Int32) < p2
  · have pre98 : ∀ t, Steps p.tables e below (s₁.setTop (mkF m 26 #[.val (.ref a0), .val (.int (2 : Int32)), .val (.int p2), .val (.int p3), .val (.int p4)] [])) t → Steps p.tables e below (s₁.setTop (entryFrame m #[(.ref a0), (.int (2 : Int32)), (.int p2), (.int p3), (.int p4)] 5)) t := fun t kt => by
      refine pre96 _ ?_
      show Steps p.tables e below (s₁.setTop (mkF m 2 #[.val (.ref a0), .val (.int (2 : Int32)), .val (.int p2), .val (.int p3), .val (.int p4)] [(.int (2 : Int32)), (.int p2)])) _
      refine XS.icmpYes X0.here hx rfl (pc0 := 2) (pc' := 26) rfl (hb hby d3_2) rfl (tlt c97).2.2.1 (by decide) (by decide) ?_
      show Steps p.tables e below (s₁.setTop (mkF m 26 #[.val (.ref a0), .val (.int (2 : Int32)), .val (.int p2), .val (.int p3), .val (.int p4)] [])) _
      exact kt
    have pre99 : ∀ t, Steps p.tables e below (s₁.setTop (mkF m 27 #[.val (.ref a0), .val (.int (2 : Int32)), .val (.int p2), .val (.int p3), .val (.int p4)] [(.int (0 : Int32))])) t → Steps p.tables e below (s₁.setTop (entryFrame m #[(.ref a0), (.int (2 : Int32)), (.int p2), (.int p3), (.int p4)] 5)) t := fun t kt => by
      refine pre98 _ ?_
      show Steps p.tables e below (s₁.setTop (mkF m 26 #[.val (.ref a0), .val (.int (2 : Int32)), .val (.int p2), .val (.int p3), .val (.int p4)] [])) _
      refine XS.iconst X0.here hx rfl (hb hby d3_26) ?_
      show Steps p.tables e below (s₁.setTop (mkF m 27 #[.val (.ref a0), .val (.int (2 : Int32)), .val (.int p2), .val (.int p3), .val (.int p4)] [(.int (0 : Int32))])) _
      exact kt
    obtain ⟨fs, hr, hrun, hended, hW, hsame⟩ := X0.leave (v := some (.int (0 : Int32))) (fun h => by rw [Bd.returns] at h; cases h)
    refine ⟨_, _, pre99 _ ?_, hrun, hended, _, _, rfl, ?_, ⟨_, rfl⟩, hW, hsame.mono (by decide) (by decide)⟩
    · show Steps p.tables e below (s₁.setTop (mkF m 27 #[.val (.ref a0), .val (.int (2 : Int32)), .val (.int p2), .val (.int p3), .val (.int p4)] [(.int (0 : Int32))])) _
      exact retI X0 hx Bd.returns (hb hby d3_27) hr
    · have hv : f3_2 p2 p3 p4 d2 = (0 : Int32) := by unfold f3_2; rw [if_pos c97]
      show Q3_2 p2 p3 p4 d2 h0 n0 _ s₁.heap _
      rw [e0]
      exact ⟨by rw [hv], N0, rfl⟩
  · have pre100 : ∀ t, Steps p.tables e below (s₁.setTop (mkF m 5 #[.val (.ref a0), .val (.int (2 : Int32)), .val (.int p2), .val (.int p3), .val (.int p4)] [])) t → Steps p.tables e below (s₁.setTop (entryFrame m #[(.ref a0), (.int (2 : Int32)), (.int p2), (.int p3), (.int p4)] 5)) t := fun t kt => by
      refine pre96 _ ?_
      show Steps p.tables e below (s₁.setTop (mkF m 2 #[.val (.ref a0), .val (.int (2 : Int32)), .val (.int p2), .val (.int p3), .val (.int p4)] [(.int (2 : Int32)), (.int p2)])) _
      refine XS.icmpNo X0.here hx rfl (hb hby d3_2) rfl (flt c97).2.2.1 ?_
      show Steps p.tables e below (s₁.setTop (mkF m 5 #[.val (.ref a0), .val (.int (2 : Int32)), .val (.int p2), .val (.int p3), .val (.int p4)] [])) _
      exact kt
    have pre101 : ∀ t, Steps p.tables e below (s₁.setTop (mkF m 9 #[.val (.ref a0), .val (.int (2 : Int32)), .val (.int p2), .val (.int p3), .val (.int p4)] [(.int (p2 + p3)), (.int (2 : Int32))])) t → Steps p.tables e below (s₁.setTop (entryFrame m #[(.ref a0), (.int (2 : Int32)), (.int p2), (.int p3), (.int p4)] 5)) t := fun t kt => by
      refine pre100 _ ?_
      show Steps p.tables e below (s₁.setTop (mkF m 5 #[.val (.ref a0), .val (.int (2 : Int32)), .val (.int p2), .val (.int p3), .val (.int p4)] [])) _
      refine XS.iloadN X0.here hx rfl (hb hby d3_5) rfl ?_
      show Steps p.tables e below (s₁.setTop (mkF m 6 #[.val (.ref a0), .val (.int (2 : Int32)), .val (.int p2), .val (.int p3), .val (.int p4)] [(.int (2 : Int32))])) _
      refine XS.iloadN X0.here hx rfl (hb hby d3_6) rfl ?_
      show Steps p.tables e below (s₁.setTop (mkF m 7 #[.val (.ref a0), .val (.int (2 : Int32)), .val (.int p2), .val (.int p3), .val (.int p4)] [(.int p2), (.int (2 : Int32))])) _
      refine XS.iloadN X0.here hx rfl (hb hby d3_7) rfl ?_
      show Steps p.tables e below (s₁.setTop (mkF m 8 #[.val (.ref a0), .val (.int (2 : Int32)), .val (.int p2), .val (.int p3), .val (.int p4)] [(.int p3), (.int p2), (.int (2 : Int32))])) _
      refine XS.iadd X0.here hx rfl (hb hby d3_8) rfl ?_
      show Steps p.tables e below (s₁.setTop (mkF m 9 #[.val (.ref a0), .val (.int (2 : Int32)), .val (.int p2), .val (.int p3), .val (.int p4)] [(.int (p2 + p3)), (.int (2 : Int32))])) _
      exact kt
    by_cases c102 : (2 : Int32) < (p2 + p3)
    · have pre103 : ∀ t, Steps p.tables e below (s₁.setTop (mkF m 12 #[.val (.ref a0), .val (.int (2 : Int32)), .val (.int p2), .val (.int p3), .val (.int p4)] [])) t → Steps p.tables e below (s₁.setTop (entryFrame m #[(.ref a0), (.int (2 : Int32)), (.int p2), (.int p3), (.int p4)] 5)) t := fun t kt => by
        refine pre101 _ ?_
        show Steps p.tables e below (s₁.setTop (mkF m 9 #[.val (.ref a0), .val (.int (2 : Int32)), .val (.int p2), .val (.int p3), .val (.int p4)] [(.int (p2 + p3)), (.int (2 : Int32))])) _
        refine XS.icmpNo X0.here hx rfl (hb hby d3_9) rfl (tlt c102).2.1 ?_
        show Steps p.tables e below (s₁.setTop (mkF m 12 #[.val (.ref a0), .val (.int (2 : Int32)), .val (.int p2), .val (.int p3), .val (.int p4)] [])) _
        exact kt
      have pre104 : ∀ t, Steps p.tables e below (s₁.setTop (mkF m 14 #[.val (.ref a0), .val (.int (2 : Int32)), .val (.int p2), .val (.int p3), .val (.int p4)] [(.int (2 : Int32)), (.ref a0)])) t → Steps p.tables e below (s₁.setTop (entryFrame m #[(.ref a0), (.int (2 : Int32)), (.int p2), (.int p3), (.int p4)] 5)) t := fun t kt => by
        refine pre103 _ ?_
        show Steps p.tables e below (s₁.setTop (mkF m 12 #[.val (.ref a0), .val (.int (2 : Int32)), .val (.int p2), .val (.int p3), .val (.int p4)] [])) _
        refine XS.aloadN X0.here hx rfl (hb hby d3_12) rfl rfl ?_
        show Steps p.tables e below (s₁.setTop (mkF m 13 #[.val (.ref a0), .val (.int (2 : Int32)), .val (.int p2), .val (.int p3), .val (.int p4)] [(.ref a0)])) _
        refine XS.iloadN X0.here hx rfl (hb hby d3_13) rfl ?_
        show Steps p.tables e below (s₁.setTop (mkF m 14 #[.val (.ref a0), .val (.int (2 : Int32)), .val (.int p2), .val (.int p3), .val (.int p4)] [(.int (2 : Int32)), (.ref a0)])) _
        exact kt
      have Vo_a0_105 := V_a
      obtain ⟨cl_a0_105, Ar_a0_105, q_a0_105, S_a0_105, M_a0_105, H_a0_105, G_a0_105⟩ := Vo_a0_105
      have hin105 : ¬ ((2 : Int32) < 0 ∨ cl_a0_105.slots.size ≤ ((2 : Int32)).toNatClampNeg) := inb_of S_a0_105 ⟨by decide, by decide⟩
      have hat105 : cl_a0_105.slots[((2 : Int32)).toNatClampNeg]? = some (.int d2) := H_a0_105.at hin105 rfl
      have pre106 : ∀ t, Steps p.tables e below (s₁.setTop (mkF m 15 #[.val (.ref a0), .val (.int (2 : Int32)), .val (.int p2), .val (.int p3), .val (.int p4)] [(.int d2)])) t → Steps p.tables e below (s₁.setTop (entryFrame m #[(.ref a0), (.int (2 : Int32)), (.int p2), (.int p3), (.int p4)] 5)) t := fun t kt => pre104 _ (X0.baloadBytes hx (j := (2 : Int32)) (v := (.int d2)) (by rw [e0]; exact Ar_a0_105.1) (State.isArrayOf_alike hZ.alike Ar_a0_105.2.1) Ar_a0_105.2.2 hin105 hat105 (g := (mkF m 14 #[.val (.ref a0), .val (.int (2 : Int32)), .val (.int p2), .val (.int p3), .val (.int p4)] [(.int (2 : Int32)), (.ref a0)])) rfl rfl (hb hby d3_14) t kt)
      have pre107 : ∀ t, Steps p.tables e below (s₁.setTop (mkF m 21 #[.val (.ref a0), .val (.int (2 : Int32)), .val (.int p2), .val (.int p3), .val (.int p4)] [(.int p4), (.int (d2 &&& (255 : Int32)))])) t → Steps p.tables e below (s₁.setTop (entryFrame m #[(.ref a0), (.int (2 : Int32)), (.int p2), (.int p3), (.int p4)] 5)) t := fun t kt => by
        refine pre106 _ ?_
        show Steps p.tables e below (s₁.setTop (mkF m 15 #[.val (.ref a0), .val (.int (2 : Int32)), .val (.int p2), .val (.int p3), .val (.int p4)] [(.int d2)])) _
        refine XS.sipush X0.here hx rfl (hb hby d3_15) ?_
        show Steps p.tables e below (s₁.setTop (mkF m 18 #[.val (.ref a0), .val (.int (2 : Int32)), .val (.int p2), .val (.int p3), .val (.int p4)] [(.int (255 : Int32)), (.int d2)])) _
        refine XS.iand X0.here hx rfl (hb hby d3_18) rfl ?_
        show Steps p.tables e below (s₁.setTop (mkF m 19 #[.val (.ref a0), .val (.int (2 : Int32)), .val (.int p2), .val (.int p3), .val (.int p4)] [(.int (d2 &&& (255 : Int32)))])) _
        refine XS.iload X0.here hx rfl (hb hby d3_19) rfl ?_
        show Steps p.tables e below (s₁.setTop (mkF m 21 #[.val (.ref a0), .val (.int (2 : Int32)), .val (.int p2), .val (.int p3), .val (.int p4)] [(.int p4), (.int (d2 &&& (255 : Int32)))])) _
        exact kt
      by_cases c108 : (d2 &&& (255 : Int32)) = p4
      · have pre109 : ∀ t, Steps p.tables e below (s₁.setTop (mkF m 24 #[.val (.ref a0), .val (.int (2 : Int32)), .val (.int p2), .val (.int p3), .val (.int p4)] [])) t → Steps p.tables e below (s₁.setTop (entryFrame m #[(.ref a0), (.int (2 : Int32)), (.int p2), (.int p3), (.int p4)] 5)) t := fun t kt => by
          refine pre107 _ ?_
          show Steps p.tables e below (s₁.setTop (mkF m 21 #[.val (.ref a0), .val (.int (2 : Int32)), .val (.int p2), .val (.int p3), .val (.int p4)] [(.int p4), (.int (d2 &&& (255 : Int32)))])) _
          refine XS.icmpNo X0.here hx rfl (hb hby d3_21) rfl (teq c108).2 ?_
          show Steps p.tables e below (s₁.setTop (mkF m 24 #[.val (.ref a0), .val (.int (2 : Int32)), .val (.int p2), .val (.int p3), .val (.int p4)] [])) _
          exact kt
        have pre110 : ∀ t, Steps p.tables e below (s₁.setTop (mkF m 25 #[.val (.ref a0), .val (.int (2 : Int32)), .val (.int p2), .val (.int p3), .val (.int p4)] [(.int (1 : Int32))])) t → Steps p.tables e below (s₁.setTop (entryFrame m #[(.ref a0), (.int (2 : Int32)), (.int p2), (.int p3), (.int p4)] 5)) t := fun t kt => by
          refine pre109 _ ?_
          show Steps p.tables e below (s₁.setTop (mkF m 24 #[.val (.ref a0), .val (.int (2 : Int32)), .val (.int p2), .val (.int p3), .val (.int p4)] [])) _
          refine XS.iconst X0.here hx rfl (hb hby d3_24) ?_
          show Steps p.tables e below (s₁.setTop (mkF m 25 #[.val (.ref a0), .val (.int (2 : Int32)), .val (.int p2), .val (.int p3), .val (.int p4)] [(.int (1 : Int32))])) _
          exact kt
        obtain ⟨fs, hr, hrun, hended, hW, hsame⟩ := X0.leave (v := some (.int (1 : Int32))) (fun h => by rw [Bd.returns] at h; cases h)
        refine ⟨_, _, pre110 _ ?_, hrun, hended, _, _, rfl, ?_, ⟨_, rfl⟩, hW, hsame.mono (by decide) (by decide)⟩
        · show Steps p.tables e below (s₁.setTop (mkF m 25 #[.val (.ref a0), .val (.int (2 : Int32)), .val (.int p2), .val (.int p3), .val (.int p4)] [(.int (1 : Int32))])) _
          exact retI X0 hx Bd.returns (hb hby d3_25) hr
        · have hv : f3_2 p2 p3 p4 d2 = (1 : Int32) := by unfold f3_2; rw [if_neg c97, if_pos c102, if_pos c108]
          show Q3_2 p2 p3 p4 d2 h0 n0 _ s₁.heap _
          rw [e0]
          exact ⟨by rw [hv], N0, rfl⟩
      · have pre111 : ∀ t, Steps p.tables e below (s₁.setTop (mkF m 26 #[.val (.ref a0), .val (.int (2 : Int32)), .val (.int p2), .val (.int p3), .val (.int p4)] [])) t → Steps p.tables e below (s₁.setTop (entryFrame m #[(.ref a0), (.int (2 : Int32)), (.int p2), (.int p3), (.int p4)] 5)) t := fun t kt => by
          refine pre107 _ ?_
          show Steps p.tables e below (s₁.setTop (mkF m 21 #[.val (.ref a0), .val (.int (2 : Int32)), .val (.int p2), .val (.int p3), .val (.int p4)] [(.int p4), (.int (d2 &&& (255 : Int32)))])) _
          refine XS.icmpYes X0.here hx rfl (pc0 := 21) (pc' := 26) rfl (hb hby d3_21) rfl (feq c108).2 (by decide) (by decide) ?_
          show Steps p.tables e below (s₁.setTop (mkF m 26 #[.val (.ref a0), .val (.int (2 : Int32)), .val (.int p2), .val (.int p3), .val (.int p4)] [])) _
          exact kt
        have pre112 : ∀ t, Steps p.tables e below (s₁.setTop (mkF m 27 #[.val (.ref a0), .val (.int (2 : Int32)), .val (.int p2), .val (.int p3), .val (.int p4)] [(.int (0 : Int32))])) t → Steps p.tables e below (s₁.setTop (entryFrame m #[(.ref a0), (.int (2 : Int32)), (.int p2), (.int p3), (.int p4)] 5)) t := fun t kt => by
          refine pre111 _ ?_
          show Steps p.tables e below (s₁.setTop (mkF m 26 #[.val (.ref a0), .val (.int (2 : Int32)), .val (.int p2), .val (.int p3), .val (.int p4)] [])) _
          refine XS.iconst X0.here hx rfl (hb hby d3_26) ?_
          show Steps p.tables e below (s₁.setTop (mkF m 27 #[.val (.ref a0), .val (.int (2 : Int32)), .val (.int p2), .val (.int p3), .val (.int p4)] [(.int (0 : Int32))])) _
          exact kt
        obtain ⟨fs, hr, hrun, hended, hW, hsame⟩ := X0.leave (v := some (.int (0 : Int32))) (fun h => by rw [Bd.returns] at h; cases h)
        refine ⟨_, _, pre112 _ ?_, hrun, hended, _, _, rfl, ?_, ⟨_, rfl⟩, hW, hsame.mono (by decide) (by decide)⟩
        · show Steps p.tables e below (s₁.setTop (mkF m 27 #[.val (.ref a0), .val (.int (2 : Int32)), .val (.int p2), .val (.int p3), .val (.int p4)] [(.int (0 : Int32))])) _
          exact retI X0 hx Bd.returns (hb hby d3_27) hr
        · have hv : f3_2 p2 p3 p4 d2 = (0 : Int32) := by unfold f3_2; rw [if_neg c97, if_pos c102, if_neg c108]
          show Q3_2 p2 p3 p4 d2 h0 n0 _ s₁.heap _
          rw [e0]
          exact ⟨by rw [hv], N0, rfl⟩
    · have pre113 : ∀ t, Steps p.tables e below (s₁.setTop (mkF m 26 #[.val (.ref a0), .val (.int (2 : Int32)), .val (.int p2), .val (.int p3), .val (.int p4)] [])) t → Steps p.tables e below (s₁.setTop (entryFrame m #[(.ref a0), (.int (2 : Int32)), (.int p2), (.int p3), (.int p4)] 5)) t := fun t kt => by
        refine pre101 _ ?_
        show Steps p.tables e below (s₁.setTop (mkF m 9 #[.val (.ref a0), .val (.int (2 : Int32)), .val (.int p2), .val (.int p3), .val (.int p4)] [(.int (p2 + p3)), (.int (2 : Int32))])) _
        refine XS.icmpYes X0.here hx rfl (pc0 := 9) (pc' := 26) rfl (hb hby d3_9) rfl (flt c102).2.1 (by decide) (by decide) ?_
        show Steps p.tables e below (s₁.setTop (mkF m 26 #[.val (.ref a0), .val (.int (2 : Int32)), .val (.int p2), .val (.int p3), .val (.int p4)] [])) _
        exact kt
      have pre114 : ∀ t, Steps p.tables e below (s₁.setTop (mkF m 27 #[.val (.ref a0), .val (.int (2 : Int32)), .val (.int p2), .val (.int p3), .val (.int p4)] [(.int (0 : Int32))])) t → Steps p.tables e below (s₁.setTop (entryFrame m #[(.ref a0), (.int (2 : Int32)), (.int p2), (.int p3), (.int p4)] 5)) t := fun t kt => by
        refine pre113 _ ?_
        show Steps p.tables e below (s₁.setTop (mkF m 26 #[.val (.ref a0), .val (.int (2 : Int32)), .val (.int p2), .val (.int p3), .val (.int p4)] [])) _
        refine XS.iconst X0.here hx rfl (hb hby d3_26) ?_
        show Steps p.tables e below (s₁.setTop (mkF m 27 #[.val (.ref a0), .val (.int (2 : Int32)), .val (.int p2), .val (.int p3), .val (.int p4)] [(.int (0 : Int32))])) _
        exact kt
      obtain ⟨fs, hr, hrun, hended, hW, hsame⟩ := X0.leave (v := some (.int (0 : Int32))) (fun h => by rw [Bd.returns] at h; cases h)
      refine ⟨_, _, pre114 _ ?_, hrun, hended, _, _, rfl, ?_, ⟨_, rfl⟩, hW, hsame.mono (by decide) (by decide)⟩
      · show Steps p.tables e below (s₁.setTop (mkF m 27 #[.val (.ref a0), .val (.int (2 : Int32)), .val (.int p2), .val (.int p3), .val (.int p4)] [(.int (0 : Int32))])) _
        exact retI X0 hx Bd.returns (hb hby d3_27) hr
      · have hv : f3_2 p2 p3 p4 d2 = (0 : Int32) := by unfold f3_2; rw [if_neg c97, if_neg c102]
        show Q3_2 p2 p3 p4 d2 h0 n0 _ s₁.heap _
        rw [e0]
        exact ⟨by rw [hv], N0, rfl⟩
def f3_3 (p2 : Int32) (p3 : Int32) (p4 : Int32) (d3 : Int32) : Int32 := if (3 : Int32) < p2 then (0 : Int32) else if (3 : Int32) < (p2 + p3) then (if (d3 &&& (255 : Int32)) = p4 then (1 : Int32) else (0 : Int32)) else (0 : Int32)
def Q3_3 (p2 : Int32) (p3 : Int32) (p4 : Int32) (d3 : Int32) (h0 : Heap) (n0 : Nat) (v : Option Value) (h : Heap) (L : List Loc) : Prop := v = some (.int (f3_3 p2 p3 p4 d3)) ∧ Fr n0 L ∧ h = h0
set_option maxRecDepth 65536 in
set_option maxHeartbeats 40000000 in
theorem rm3_3 (l : Launch) (Z : State) (aZ : Array Value) (hw : ∀ d ∈ tables_1, d.before aZ Z = true) (ws : List Jvm.Cond) (a0 : Addr) (p2 : Int32) (p3 : Int32) (p4 : Int32) (kd : ClassId) (d0 d1 d2 d3 : Int32) (h0 : Heap) (n0 : Nat) (Z0 : n0 ≤ h0.size) (V_a : Arv Z h0 a0 kd .byte (4 : Int32) [(.int d0), (.int d1), (.int d2), (.int d3)] (.int (0 : Int32))) :
    MetFree l (⟨"com/example/leafweight/leafweight/BlockCodeCountPinLaw", "hit", "([BIIII)I"⟩ : MethodName) (head1 (Jvm.Cond.code (⟨"com/example/leafweight/leafweight/BlockCodeCountPinLaw", "hit", "([BIIII)I"⟩ : MethodName) method_3_code 5 (some .int) :: ws) ({ frames := 0, cells := 0, slots := 0, locals := 0 } : Room)) (fun a U => a = #[(.ref a0), (.int (3 : Int32)), (.int p2), (.int p3), (.int p4)] ∧ Z.Warmed39 U.vm ∧ U.heap = h0) (fun _ _ _ _ _ => True) (fun _ U oc U' => ∃ v L, oc = .returned v ∧ Q3_3 p2 p3 p4 d3 h0 n0 v U'.heap L ∧ FrameEnd U oc U' L ({ frames := 0, cells := 0, slots := 0, locals := 0 } : Room).cells ({ frames := 0, cells := 0, slots := 0, locals := 0 } : Room).slots) := by
  refine MetFree.of_bodySF (plainFor_of_name pn_3) hisR ?_
  intro p e s m args below meth c s₁ Bd hml0 hP hK
  obtain ⟨rfl, hZ, hh⟩ := hP
  have hx := Bd.exec
  have hby := Bd.bytes
  have hml : c.maxLocals = 5 := hml0
  have hown : s.vm.findClass "com/example/leafweight/leafweight/BlockCodeCountPinLaw" = some m.cls := findClass_of_methodNamed Bd.named
  have hnm := (name_of_methodNamed Bd.named Bd.method).1
  have X0 : Stand p l e ({ frames := 0, cells := 0, slots := 0, locals := 0 } : Room) s m #[(.ref a0), (.int (3 : Int32)), (.int p2), (.int p3), (.int p4)] below meth c s₁ [] 0 0 := Stand.of_body Bd
  have e0 : s₁.heap = h0 := by rw [← hh, Bd.state]; rfl
  have N0 := Fr.nil n0
  have pre0 : ∀ t, Steps p.tables e below (s₁.setTop (mkF m 0 #[.val (.ref a0), .val (.int (3 : Int32)), .val (.int p2), .val (.int p3), .val (.int p4)] [])) t → Steps p.tables e below (s₁.setTop (entryFrame m #[(.ref a0), (.int (3 : Int32)), (.int p2), (.int p3), (.int p4)] 5)) t := fun t kt => castTop (ef_3 m a0 (3 : Int32) p2 p3 p4) kt
  have pre134 : ∀ t, Steps p.tables e below (s₁.setTop (mkF m 2 #[.val (.ref a0), .val (.int (3 : Int32)), .val (.int p2), .val (.int p3), .val (.int p4)] [(.int (3 : Int32)), (.int p2)])) t → Steps p.tables e below (s₁.setTop (entryFrame m #[(.ref a0), (.int (3 : Int32)), (.int p2), (.int p3), (.int p4)] 5)) t := fun t kt => by
    refine pre0 _ ?_
    show Steps p.tables e below (s₁.setTop (mkF m 0 #[.val (.ref a0), .val (.int (3 : Int32)), .val (.int p2), .val (.int p3), .val (.int p4)] [])) _
    refine XS.iloadN X0.here hx rfl (hb hby d3_0) rfl ?_
    show Steps p.tables e below (s₁.setTop (mkF m 1 #[.val (.ref a0), .val (.int (3 : Int32)), .val (.int p2), .val (.int p3), .val (.int p4)] [(.int p2)])) _
    refine XS.iloadN X0.here hx rfl (hb hby d3_1) rfl ?_
    show Steps p.tables e below (s₁.setTop (mkF m 2 #[.val (.ref a0), .val (.int (3 : Int32)), .val (.int p2), .val (.int p3), .val (.int p4)] [(.int (3 : Int32)), (.int p2)])) _
    exact kt
  by_cases c135 : (3 : Int32) < p2
  · have pre136 : ∀ t, Steps p.tables e below (s₁.setTop (mkF m 26 #[.val (.ref a0), .val (.int (3 : Int32)), .val (.int p2), .val (.int p3), .val (.int p4)] [])) t → Steps p.tables e below (s₁.setTop (entryFrame m #[(.ref a0), (.int (3 : Int32)), (.int p2), (.int p3), (.int p4)] 5)) t := fun t kt => by
      refine pre134 _ ?_
      show Steps p.tables e below (s₁.setTop (mkF m 2 #[.val (.ref a0), .val (.int (3 : Int32)), .val (.int p2), .val (.int p3), .val (.int p4)] [(.int (3 : Int32)), (.int p2)])) _
      refine XS.icmpYes X0.here hx rfl (pc0 := 2) (pc' := 26) rfl (hb hby d3_2) rfl (tlt c135).2.2.1 (by decide) (by decide) ?_
      show Steps p.tables e below (s₁.setTop (mkF m 26 #[.val (.ref a0), .val (.int (3 : Int32)), .val (.int p2), .val (.int p3), .val (.int p4)] [])) _
      exact kt
    have pre137 : ∀ t, Steps p.tables e below (s₁.setTop (mkF m 27 #[.val (.ref a0), .val (.int (3 : Int32)), .val (.int p2), .val (.int p3), .val (.int p4)] [(.int (0 : Int32))])) t → Steps p.tables e below (s₁.setTop (entryFrame m #[(.ref a0), (.int (3 : Int32)), (.int p2), (.int p3), (.int p4)] 5)) t := fun t kt => by
      refine pre136 _ ?_
      show Steps p.tables e below (s₁.setTop (mkF m 26 #[.val (.ref a0), .val (.int (3 : Int32)), .val (.int p2), .val (.int p3), .val (.int p4)] [])) _
      refine XS.iconst X0.here hx rfl (hb hby d3_26) ?_
      show Steps p.tables e below (s₁.setTop (mkF m 27 #[.val (.ref a0), .val (.int (3 : Int32)), .val (.int p2), .val (.int p3), .val (.int p4)] [(.int (0 : Int32))])) _
      exact kt
    obtain ⟨fs, hr, hrun, hended, hW, hsame⟩ := X0.leave (v := some (.int (0 : Int32))) (fun h => by rw [Bd.returns] at h; cases h)
    refine ⟨_, _, pre137 _ ?_, hrun, hended, _, _, rfl, ?_, ⟨_, rfl⟩, hW, hsame.mono (by decide) (by decide)⟩
    · show Steps p.tables e below (s₁.setTop (mkF m 27 #[.val (.ref a0), .val (.int (3 : Int32)), .val (.int p2), .val (.int p3), .val (.int p4)] [(.int (0 : Int32))])) _
      exact retI X0 hx Bd.returns (hb hby d3_27) hr
    · have hv : f3_3 p2 p3 p4 d3 = (0 : Int32) := by unfold f3_3; rw [if_pos c135]
      show Q3_3 p2 p3 p4 d3 h0 n0 _ s₁.heap _
      rw [e0]
      exact ⟨by rw [hv], N0, rfl⟩
  · have pre138 : ∀ t, Steps p.tables e below (s₁.setTop (mkF m 5 #[.val (.ref a0), .val (.int (3 : Int32)), .val (.int p2), .val (.int p3), .val (.int p4)] [])) t → Steps p.tables e below (s₁.setTop (entryFrame m #[(.ref a0), (.int (3 : Int32)), (.int p2), (.int p3), (.int p4)] 5)) t := fun t kt => by
      refine pre134 _ ?_
      show Steps p.tables e below (s₁.setTop (mkF m 2 #[.val (.ref a0), .val (.int (3 : Int32)), .val (.int p2), .val (.int p3), .val (.int p4)] [(.int (3 : Int32)), (.int p2)])) _
      refine XS.icmpNo X0.here hx rfl (hb hby d3_2) rfl (flt c135).2.2.1 ?_
      show Steps p.tables e below (s₁.setTop (mkF m 5 #[.val (.ref a0), .val (.int (3 : Int32)), .val (.int p2), .val (.int p3), .val (.int p4)] [])) _
      exact kt
    have pre139 : ∀ t, Steps p.tables e below (s₁.setTop (mkF m 9 #[.val (.ref a0), .val (.int (3 : Int32)), .val (.int p2), .val (.int p3), .val (.int p4)] [(.int (p2 + p3)), (.int (3 : Int32))])) t → Steps p.tables e below (s₁.setTop (entryFrame m #[(.ref a0), (.int (3 : Int32)), (.int p2), (.int p3), (.int p4)] 5)) t := fun t kt => by
      refine pre138 _ ?_
      show Steps p.tables e below (s₁.setTop (mkF m 5 #[.val (.ref a0), .val (.int (3 : Int32)), .val (.int p2), .val (.int p3), .val (.int p4)] [])) _
      refine XS.iloadN X0.here hx rfl (hb hby d3_5) rfl ?_
      show Steps p.tables e below (s₁.setTop (mkF m 6 #[.val (.ref a0), .val (.int (3 : Int32)), .val (.int p2), .val (.int p3), .val (.int p4)] [(.int (3 : Int32))])) _
      refine XS.iloadN X0.here hx rfl (hb hby d3_6) rfl ?_
      show Steps p.tables e below (s₁.setTop (mkF m 7 #[.val (.ref a0), .val (.int (3 : Int32)), .val (.int p2), .val (.int p3), .val (.int p4)] [(.int p2), (.int (3 : Int32))])) _
      refine XS.iloadN X0.here hx rfl (hb hby d3_7) rfl ?_
      show Steps p.tables e below (s₁.setTop (mkF m 8 #[.val (.ref a0), .val (.int (3 : Int32)), .val (.int p2), .val (.int p3), .val (.int p4)] [(.int p3), (.int p2), (.int (3 : Int32))])) _
      refine XS.iadd X0.here hx rfl (hb hby d3_8) rfl ?_
      show Steps p.tables e below (s₁.setTop (mkF m 9 #[.val (.ref a0), .val (.int (3 : Int32)), .val (.int p2), .val (.int p3), .val (.int p4)] [(.int (p2 + p3)), (.int (3 : Int32))])) _
      exact kt
    by_cases c140 : (3 : Int32) < (p2 + p3)
    · have pre141 : ∀ t, Steps p.tables e below (s₁.setTop (mkF m 12 #[.val (.ref a0), .val (.int (3 : Int32)), .val (.int p2), .val (.int p3), .val (.int p4)] [])) t → Steps p.tables e below (s₁.setTop (entryFrame m #[(.ref a0), (.int (3 : Int32)), (.int p2), (.int p3), (.int p4)] 5)) t := fun t kt => by
        refine pre139 _ ?_
        show Steps p.tables e below (s₁.setTop (mkF m 9 #[.val (.ref a0), .val (.int (3 : Int32)), .val (.int p2), .val (.int p3), .val (.int p4)] [(.int (p2 + p3)), (.int (3 : Int32))])) _
        refine XS.icmpNo X0.here hx rfl (hb hby d3_9) rfl (tlt c140).2.1 ?_
        show Steps p.tables e below (s₁.setTop (mkF m 12 #[.val (.ref a0), .val (.int (3 : Int32)), .val (.int p2), .val (.int p3), .val (.int p4)] [])) _
        exact kt
      have pre142 : ∀ t, Steps p.tables e below (s₁.setTop (mkF m 14 #[.val (.ref a0), .val (.int (3 : Int32)), .val (.int p2), .val (.int p3), .val (.int p4)] [(.int (3 : Int32)), (.ref a0)])) t → Steps p.tables e below (s₁.setTop (entryFrame m #[(.ref a0), (.int (3 : Int32)), (.int p2), (.int p3), (.int p4)] 5)) t := fun t kt => by
        refine pre141 _ ?_
        show Steps p.tables e below (s₁.setTop (mkF m 12 #[.val (.ref a0), .val (.int (3 : Int32)), .val (.int p2), .val (.int p3), .val (.int p4)] [])) _
        refine XS.aloadN X0.here hx rfl (hb hby d3_12) rfl rfl ?_
        show Steps p.tables e below (s₁.setTop (mkF m 13 #[.val (.ref a0), .val (.int (3 : Int32)), .val (.int p2), .val (.int p3), .val (.int p4)] [(.ref a0)])) _
        refine XS.iloadN X0.here hx rfl (hb hby d3_13) rfl ?_
        show Steps p.tables e below (s₁.setTop (mkF m 14 #[.val (.ref a0), .val (.int (3 : Int32)), .val (.int p2), .val (.int p3), .val (.int p4)] [(.int (3 : Int32)), (.ref a0)])) _
        exact kt
      have Vo_a0_143 := V_a
      obtain ⟨cl_a0_143, Ar_a0_143, q_a0_143, S_a0_143, M_a0_143, H_a0_143, G_a0_143⟩ := Vo_a0_143
      have hin143 : ¬ ((3 : Int32) < 0 ∨ cl_a0_143.slots.size ≤ ((3 : Int32)).toNatClampNeg) := inb_of S_a0_143 ⟨by decide, by decide⟩
      have hat143 : cl_a0_143.slots[((3 : Int32)).toNatClampNeg]? = some (.int d3) := H_a0_143.at hin143 rfl
      have pre144 : ∀ t, Steps p.tables e below (s₁.setTop (mkF m 15 #[.val (.ref a0), .val (.int (3 : Int32)), .val (.int p2), .val (.int p3), .val (.int p4)] [(.int d3)])) t → Steps p.tables e below (s₁.setTop (entryFrame m #[(.ref a0), (.int (3 : Int32)), (.int p2), (.int p3), (.int p4)] 5)) t := fun t kt => pre142 _ (X0.baloadBytes hx (j := (3 : Int32)) (v := (.int d3)) (by rw [e0]; exact Ar_a0_143.1) (State.isArrayOf_alike hZ.alike Ar_a0_143.2.1) Ar_a0_143.2.2 hin143 hat143 (g := (mkF m 14 #[.val (.ref a0), .val (.int (3 : Int32)), .val (.int p2), .val (.int p3), .val (.int p4)] [(.int (3 : Int32)), (.ref a0)])) rfl rfl (hb hby d3_14) t kt)
      have pre145 : ∀ t, Steps p.tables e below (s₁.setTop (mkF m 21 #[.val (.ref a0), .val (.int (3 : Int32)), .val (.int p2), .val (.int p3), .val (.int p4)] [(.int p4), (.int (d3 &&& (255 : Int32)))])) t → Steps p.tables e below (s₁.setTop (entryFrame m #[(.ref a0), (.int (3 : Int32)), (.int p2), (.int p3), (.int p4)] 5)) t := fun t kt => by
        refine pre144 _ ?_
        show Steps p.tables e below (s₁.setTop (mkF m 15 #[.val (.ref a0), .val (.int (3 : Int32)), .val (.int p2), .val (.int p3), .val (.int p4)] [(.int d3)])) _
        refine XS.sipush X0.here hx rfl (hb hby d3_15) ?_
        show Steps p.tables e below (s₁.setTop (mkF m 18 #[.val (.ref a0), .val (.int (3 : Int32)), .val (.int p2), .val (.int p3), .val (.int p4)] [(.int (255 : Int32)), (.int d3)])) _
        refine XS.iand X0.here hx rfl (hb hby d3_18) rfl ?_
        show Steps p.tables e below (s₁.setTop (mkF m 19 #[.val (.ref a0), .val (.int (3 : Int32)), .val (.int p2), .val (.int p3), .val (.int p4)] [(.int (d3 &&& (255 : Int32)))])) _
        refine XS.iload X0.here hx rfl (hb hby d3_19) rfl ?_
        show Steps p.tables e below (s₁.setTop (mkF m 21 #[.val (.ref a0), .val (.int (3 : Int32)), .val (.int p2), .val (.int p3), .val (.int p4)] [(.int p4), (.int (d3 &&& (255 : Int32)))])) _
        exact kt
      by_cases c146 : (d3 &&& (255 : Int32)) = p4
      · have pre147 : ∀ t, Steps p.tables e below (s₁.setTop (mkF m 24 #[.val (.ref a0), .val (.int (3 : Int32)), .val (.int p2), .val (.int p3), .val (.int p4)] [])) t → Steps p.tables e below (s₁.setTop (entryFrame m #[(.ref a0), (.int (3 : Int32)), (.int p2), (.int p3), (.int p4)] 5)) t := fun t kt => by
          refine pre145 _ ?_
          show Steps p.tables e below (s₁.setTop (mkF m 21 #[.val (.ref a0), .val (.int (3 : Int32)), .val (.int p2), .val (.int p3), .val (.int p4)] [(.int p4), (.int (d3 &&& (255 : Int32)))])) _
          refine XS.icmpNo X0.here hx rfl (hb hby d3_21) rfl (teq c146).2 ?_
          show Steps p.tables e below (s₁.setTop (mkF m 24 #[.val (.ref a0), .val (.int (3 : Int32)), .val (.int p2), .val (.int p3), .val (.int p4)] [])) _
          exact kt
        have pre148 : ∀ t, Steps p.tables e below (s₁.setTop (mkF m 25 #[.val (.ref a0), .val (.int (3 : Int32)), .val (.int p2), .val (.int p3), .val (.int p4)] [(.int (1 : Int32))])) t → Steps p.tables e below (s₁.setTop (entryFrame m #[(.ref a0), (.int (3 : Int32)), (.int p2), (.int p3), (.int p4)] 5)) t := fun t kt => by
          refine pre147 _ ?_
          show Steps p.tables e below (s₁.setTop (mkF m 24 #[.val (.ref a0), .val (.int (3 : Int32)), .val (.int p2), .val (.int p3), .val (.int p4)] [])) _
          refine XS.iconst X0.here hx rfl (hb hby d3_24) ?_
          show Steps p.tables e below (s₁.setTop (mkF m 25 #[.val (.ref a0), .val (.int (3 : Int32)), .val (.int p2), .val (.int p3), .val (.int p4)] [(.int (1 : Int32))])) _
          exact kt
        obtain ⟨fs, hr, hrun, hended, hW, hsame⟩ := X0.leave (v := some (.int (1 : Int32))) (fun h => by rw [Bd.returns] at h; cases h)
        refine ⟨_, _, pre148 _ ?_, hrun, hended, _, _, rfl, ?_, ⟨_, rfl⟩, hW, hsame.mono (by decide) (by decide)⟩
        · show Steps p.tables e below (s₁.setTop (mkF m 25 #[.val (.ref a0), .val (.int (3 : Int32)), .val (.int p2), .val (.int p3), .val (.int p4)] [(.int (1 : Int32))])) _
          exact retI X0 hx Bd.returns (hb hby d3_25) hr
        · have hv : f3_3 p2 p3 p4 d3 = (1 : Int32) := by unfold f3_3; rw [if_neg c135, if_pos c140, if_pos c146]
          show Q3_3 p2 p3 p4 d3 h0 n0 _ s₁.heap _
          rw [e0]
          exact ⟨by rw [hv], N0, rfl⟩
      · have pre149 : ∀ t, Steps p.tables e below (s₁.setTop (mkF m 26 #[.val (.ref a0), .val (.int (3 : Int32)), .val (.int p2), .val (.int p3), .val (.int p4)] [])) t → Steps p.tables e below (s₁.setTop (entryFrame m #[(.ref a0), (.int (3 : Int32)), (.int p2), (.int p3), (.int p4)] 5)) t := fun t kt => by
          refine pre145 _ ?_
          show Steps p.tables e below (s₁.setTop (mkF m 21 #[.val (.ref a0), .val (.int (3 : Int32)), .val (.int p2), .val (.int p3), .val (.int p4)] [(.int p4), (.int (d3 &&& (255 : Int32)))])) _
          refine XS.icmpYes X0.here hx rfl (pc0 := 21) (pc' := 26) rfl (hb hby d3_21) rfl (feq c146).2 (by decide) (by decide) ?_
          show Steps p.tables e below (s₁.setTop (mkF m 26 #[.val (.ref a0), .val (.int (3 : Int32)), .val (.int p2), .val (.int p3), .val (.int p4)] [])) _
          exact kt
        have pre150 : ∀ t, Steps p.tables e below (s₁.setTop (mkF m 27 #[.val (.ref a0), .val (.int (3 : Int32)), .val (.int p2), .val (.int p3), .val (.int p4)] [(.int (0 : Int32))])) t → Steps p.tables e below (s₁.setTop (entryFrame m #[(.ref a0), (.int (3 : Int32)), (.int p2), (.int p3), (.int p4)] 5)) t := fun t kt => by
          refine pre149 _ ?_
          show Steps p.tables e below (s₁.setTop (mkF m 26 #[.val (.ref a0), .val (.int (3 : Int32)), .val (.int p2), .val (.int p3), .val (.int p4)] [])) _
          refine XS.iconst X0.here hx rfl (hb hby d3_26) ?_
          show Steps p.tables e below (s₁.setTop (mkF m 27 #[.val (.ref a0), .val (.int (3 : Int32)), .val (.int p2), .val (.int p3), .val (.int p4)] [(.int (0 : Int32))])) _
          exact kt
        obtain ⟨fs, hr, hrun, hended, hW, hsame⟩ := X0.leave (v := some (.int (0 : Int32))) (fun h => by rw [Bd.returns] at h; cases h)
        refine ⟨_, _, pre150 _ ?_, hrun, hended, _, _, rfl, ?_, ⟨_, rfl⟩, hW, hsame.mono (by decide) (by decide)⟩
        · show Steps p.tables e below (s₁.setTop (mkF m 27 #[.val (.ref a0), .val (.int (3 : Int32)), .val (.int p2), .val (.int p3), .val (.int p4)] [(.int (0 : Int32))])) _
          exact retI X0 hx Bd.returns (hb hby d3_27) hr
        · have hv : f3_3 p2 p3 p4 d3 = (0 : Int32) := by unfold f3_3; rw [if_neg c135, if_pos c140, if_neg c146]
          show Q3_3 p2 p3 p4 d3 h0 n0 _ s₁.heap _
          rw [e0]
          exact ⟨by rw [hv], N0, rfl⟩
    · have pre151 : ∀ t, Steps p.tables e below (s₁.setTop (mkF m 26 #[.val (.ref a0), .val (.int (3 : Int32)), .val (.int p2), .val (.int p3), .val (.int p4)] [])) t → Steps p.tables e below (s₁.setTop (entryFrame m #[(.ref a0), (.int (3 : Int32)), (.int p2), (.int p3), (.int p4)] 5)) t := fun t kt => by
        refine pre139 _ ?_
        show Steps p.tables e below (s₁.setTop (mkF m 9 #[.val (.ref a0), .val (.int (3 : Int32)), .val (.int p2), .val (.int p3), .val (.int p4)] [(.int (p2 + p3)), (.int (3 : Int32))])) _
        refine XS.icmpYes X0.here hx rfl (pc0 := 9) (pc' := 26) rfl (hb hby d3_9) rfl (flt c140).2.1 (by decide) (by decide) ?_
        show Steps p.tables e below (s₁.setTop (mkF m 26 #[.val (.ref a0), .val (.int (3 : Int32)), .val (.int p2), .val (.int p3), .val (.int p4)] [])) _
        exact kt
      have pre152 : ∀ t, Steps p.tables e below (s₁.setTop (mkF m 27 #[.val (.ref a0), .val (.int (3 : Int32)), .val (.int p2), .val (.int p3), .val (.int p4)] [(.int (0 : Int32))])) t → Steps p.tables e below (s₁.setTop (entryFrame m #[(.ref a0), (.int (3 : Int32)), (.int p2), (.int p3), (.int p4)] 5)) t := fun t kt => by
        refine pre151 _ ?_
        show Steps p.tables e below (s₁.setTop (mkF m 26 #[.val (.ref a0), .val (.int (3 : Int32)), .val (.int p2), .val (.int p3), .val (.int p4)] [])) _
        refine XS.iconst X0.here hx rfl (hb hby d3_26) ?_
        show Steps p.tables e below (s₁.setTop (mkF m 27 #[.val (.ref a0), .val (.int (3 : Int32)), .val (.int p2), .val (.int p3), .val (.int p4)] [(.int (0 : Int32))])) _
        exact kt
      obtain ⟨fs, hr, hrun, hended, hW, hsame⟩ := X0.leave (v := some (.int (0 : Int32))) (fun h => by rw [Bd.returns] at h; cases h)
      refine ⟨_, _, pre152 _ ?_, hrun, hended, _, _, rfl, ?_, ⟨_, rfl⟩, hW, hsame.mono (by decide) (by decide)⟩
      · show Steps p.tables e below (s₁.setTop (mkF m 27 #[.val (.ref a0), .val (.int (3 : Int32)), .val (.int p2), .val (.int p3), .val (.int p4)] [(.int (0 : Int32))])) _
        exact retI X0 hx Bd.returns (hb hby d3_27) hr
      · have hv : f3_3 p2 p3 p4 d3 = (0 : Int32) := by unfold f3_3; rw [if_neg c135, if_neg c140]
        show Q3_3 p2 p3 p4 d3 h0 n0 _ s₁.heap _
        rw [e0]
        exact ⟨by rw [hv], N0, rfl⟩
theorem d2_0 : decode method_4_code 0 = .ok (.aload_n 0, 1) := by decide +kernel
theorem d2_1 : decode method_4_code 1 = .ok (.iconst 0, 1) := by decide +kernel
theorem d2_2 : decode method_4_code 2 = .ok (.iload_n 1, 1) := by decide +kernel
theorem d2_3 : decode method_4_code 3 = .ok (.iload_n 2, 1) := by decide +kernel
theorem d2_4 : decode method_4_code 4 = .ok (.iload_n 3, 1) := by decide +kernel
theorem d2_5 : decode method_4_code 5 = .ok (.invokestatic 20, 3) := by decide +kernel
theorem d2_8 : decode method_4_code 8 = .ok (.aload_n 0, 1) := by decide +kernel
theorem d2_9 : decode method_4_code 9 = .ok (.iconst 1, 1) := by decide +kernel
theorem d2_10 : decode method_4_code 10 = .ok (.iload_n 1, 1) := by decide +kernel
theorem d2_11 : decode method_4_code 11 = .ok (.iload_n 2, 1) := by decide +kernel
theorem d2_12 : decode method_4_code 12 = .ok (.iload_n 3, 1) := by decide +kernel
theorem d2_13 : decode method_4_code 13 = .ok (.invokestatic 20, 3) := by decide +kernel
theorem d2_16 : decode method_4_code 16 = .ok (.iadd, 1) := by decide +kernel
theorem d2_17 : decode method_4_code 17 = .ok (.aload_n 0, 1) := by decide +kernel
theorem d2_18 : decode method_4_code 18 = .ok (.iconst 2, 1) := by decide +kernel
theorem d2_19 : decode method_4_code 19 = .ok (.iload_n 1, 1) := by decide +kernel
theorem d2_20 : decode method_4_code 20 = .ok (.iload_n 2, 1) := by decide +kernel
theorem d2_21 : decode method_4_code 21 = .ok (.iload_n 3, 1) := by decide +kernel
theorem d2_22 : decode method_4_code 22 = .ok (.invokestatic 20, 3) := by decide +kernel
theorem d2_25 : decode method_4_code 25 = .ok (.iadd, 1) := by decide +kernel
theorem d2_26 : decode method_4_code 26 = .ok (.aload_n 0, 1) := by decide +kernel
theorem d2_27 : decode method_4_code 27 = .ok (.iconst 3, 1) := by decide +kernel
theorem d2_28 : decode method_4_code 28 = .ok (.iload_n 1, 1) := by decide +kernel
theorem d2_29 : decode method_4_code 29 = .ok (.iload_n 2, 1) := by decide +kernel
theorem d2_30 : decode method_4_code 30 = .ok (.iload_n 3, 1) := by decide +kernel
theorem d2_31 : decode method_4_code 31 = .ok (.invokestatic 20, 3) := by decide +kernel
theorem d2_34 : decode method_4_code 34 = .ok (.iadd, 1) := by decide +kernel
theorem d2_35 : decode method_4_code 35 = .ok (.ireturn, 1) := by decide +kernel
theorem ef_2 (m : MethodId) (x0 : Addr) (x1 : Int32) (x2 : Int32) (x3 : Int32) : entryFrame m #[(.ref x0), (.int x1), (.int x2), (.int x3)] 4 = mkF m 0 #[.val (.ref x0), .val (.int x1), .val (.int x2), .val (.int x3)] [] := by first | (simp [entryFrame, mkF, argsToLocals, Value.category]; done) | rfl
def f2 (p1 : Int32) (p2 : Int32) (p3 : Int32) (d0 : Int32) (d1 : Int32) (d2 : Int32) (d3 : Int32) : Int32 := ((((f3_0 p1 p2 p3 d0) + (f3_1 p1 p2 p3 d1)) + (f3_2 p1 p2 p3 d2)) + (f3_3 p1 p2 p3 d3))
def Q2 (p1 : Int32) (p2 : Int32) (p3 : Int32) (d0 : Int32) (d1 : Int32) (d2 : Int32) (d3 : Int32) (h0 : Heap) (n0 : Nat) (v : Option Value) (h : Heap) (L : List Loc) : Prop := v = some (.int (f2 p1 p2 p3 d0 d1 d2 d3)) ∧ Fr n0 L ∧ h = h0
set_option maxRecDepth 65536 in
set_option maxHeartbeats 40000000 in
theorem rm2 (l : Launch) (Z : State) (aZ : Array Value) (hw : ∀ d ∈ tables_1, d.before aZ Z = true) (ws : List Jvm.Cond) (a0 : Addr) (p1 : Int32) (p2 : Int32) (p3 : Int32) (kd : ClassId) (d0 d1 d2 d3 : Int32) (h0 : Heap) (n0 : Nat) (Z0 : n0 ≤ h0.size) (V_a : Arv Z h0 a0 kd .byte (4 : Int32) [(.int d0), (.int d1), (.int d2), (.int d3)] (.int (0 : Int32))) :
    MetFree l (⟨"com/example/leafweight/leafweight/BlockCodeCountPinLaw", "ref", "([BIII)I"⟩ : MethodName) (head1 (Jvm.Cond.code (⟨"com/example/leafweight/leafweight/BlockCodeCountPinLaw", "ref", "([BIII)I"⟩ : MethodName) method_4_code 4 (some .int) :: ws) ({ frames := 1, cells := 0, slots := 0, locals := 17 } : Room)) (fun a U => a = #[(.ref a0), (.int p1), (.int p2), (.int p3)] ∧ Z.Warmed39 U.vm ∧ U.heap = h0) (fun _ _ _ _ _ => True) (fun _ U oc U' => ∃ v L, oc = .returned v ∧ Q2 p1 p2 p3 d0 d1 d2 d3 h0 n0 v U'.heap L ∧ FrameEnd U oc U' L ({ frames := 1, cells := 0, slots := 0, locals := 17 } : Room).cells ({ frames := 1, cells := 0, slots := 0, locals := 17 } : Room).slots) := by
  refine MetFree.of_bodySF (plainFor_of_name pn_3) hisR ?_
  intro p e s m args below meth c s₁ Bd hml0 hP hK
  obtain ⟨rfl, hZ, hh⟩ := hP
  have hx := Bd.exec
  have hby := Bd.bytes
  have hml : c.maxLocals = 4 := hml0
  have hown : s.vm.findClass "com/example/leafweight/leafweight/BlockCodeCountPinLaw" = some m.cls := findClass_of_methodNamed Bd.named
  have hnm := (name_of_methodNamed Bd.named Bd.method).1
  have X0 : Stand p l e ({ frames := 1, cells := 0, slots := 0, locals := 17 } : Room) s m #[(.ref a0), (.int p1), (.int p2), (.int p3)] below meth c s₁ [] 0 0 := Stand.of_body Bd
  have e0 : s₁.heap = h0 := by rw [← hh, Bd.state]; rfl
  have N0 := Fr.nil n0
  have pre0 : ∀ t, Steps p.tables e below (s₁.setTop (mkF m 0 #[.val (.ref a0), .val (.int p1), .val (.int p2), .val (.int p3)] [])) t → Steps p.tables e below (s₁.setTop (entryFrame m #[(.ref a0), (.int p1), (.int p2), (.int p3)] 4)) t := fun t kt => castTop (ef_2 m a0 p1 p2 p3) kt
  have pre162 : ∀ t, Steps p.tables e below (s₁.setTop (mkF m 5 #[.val (.ref a0), .val (.int p1), .val (.int p2), .val (.int p3)] [(.int p3), (.int p2), (.int p1), (.int (0 : Int32)), (.ref a0)])) t → Steps p.tables e below (s₁.setTop (entryFrame m #[(.ref a0), (.int p1), (.int p2), (.int p3)] 4)) t := fun t kt => by
    refine pre0 _ ?_
    show Steps p.tables e below (s₁.setTop (mkF m 0 #[.val (.ref a0), .val (.int p1), .val (.int p2), .val (.int p3)] [])) _
    refine XS.aloadN X0.here hx rfl (hb hby d2_0) rfl rfl ?_
    show Steps p.tables e below (s₁.setTop (mkF m 1 #[.val (.ref a0), .val (.int p1), .val (.int p2), .val (.int p3)] [(.ref a0)])) _
    refine XS.iconst X0.here hx rfl (hb hby d2_1) ?_
    show Steps p.tables e below (s₁.setTop (mkF m 2 #[.val (.ref a0), .val (.int p1), .val (.int p2), .val (.int p3)] [(.int (0 : Int32)), (.ref a0)])) _
    refine XS.iloadN X0.here hx rfl (hb hby d2_2) rfl ?_
    show Steps p.tables e below (s₁.setTop (mkF m 3 #[.val (.ref a0), .val (.int p1), .val (.int p2), .val (.int p3)] [(.int p1), (.int (0 : Int32)), (.ref a0)])) _
    refine XS.iloadN X0.here hx rfl (hb hby d2_3) rfl ?_
    show Steps p.tables e below (s₁.setTop (mkF m 4 #[.val (.ref a0), .val (.int p1), .val (.int p2), .val (.int p3)] [(.int p2), (.int p1), (.int (0 : Int32)), (.ref a0)])) _
    refine XS.iloadN X0.here hx rfl (hb hby d2_4) rfl ?_
    show Steps p.tables e below (s₁.setTop (mkF m 5 #[.val (.ref a0), .val (.int p1), .val (.int p2), .val (.int p3)] [(.int p3), (.int p2), (.int p1), (.int (0 : Int32)), (.ref a0)])) _
    exact kt
  obtain ⟨_, _, ⟨T163, L163, k163, n163⟩, -, X163, ⟨Lc163, hQ163, l163, y163, z163⟩, st163⟩ := Jvm.LawKit.callS X0 hx (y := (⟨"com/example/leafweight/leafweight/BlockCodeCountPinLaw", "hit", "([BIIII)I"⟩ : MethodName)) hown (mvT hZ (hw _ (List.mem_of_getElem? (i := 11) rfl))) (mvT hZ (hw _ (List.mem_of_getElem? (i := 12) rfl))) (mvT hZ (hw _ (List.mem_of_getElem? (i := 9) rfl))) (mvT hZ (hw _ (List.mem_of_getElem? (i := 13) rfl))) (by decide) (backOf (W := 0) (rm3_0 l Z aZ hw [] a0 p1 p2 p3 kd d0 d1 d2 d3 h0 n0 Z0 V_a) hZ (hw _ (List.mem_of_getElem? (i := 13) rfl)) (hw _ (List.mem_of_getElem? (i := 9) rfl)) (by decide) (by decide)) (g := (mkF m 5 #[.val (.ref a0), .val (.int p1), .val (.int p2), .val (.int p3)] [(.int p3), (.int p2), (.int p1), (.int (0 : Int32)), (.ref a0)])) rfl (by rw [hml]; rfl) (argsL := [(.ref a0), (.int (0 : Int32)), (.int p1), (.int p2), (.int p3)]) (rest := []) (lenOf pd_2 rfl) rfl (by show 2 * 0 + _ ≤ _; exact Nat.le_of_eq rfl) (hb hby d2_5) (fun _ _ => ⟨rfl, e0, (by decide : 0 + 0 ≤ _), (by decide : 0 + 0 ≤ _)⟩)
  dsimp only [Pt.U, Pt.locs, Pt.cells, Pt.slots] at X163 l163 y163 z163 st163 hQ163
  subst l163 y163 z163
  obtain ⟨rfl, N163q, e163⟩ := hQ163
  have N163 := Fr.app N0 N163q
  have pre163 : ∀ t, Steps p.tables e below (T163.setTop (mkF m 8 #[.val (.ref a0), .val (.int p1), .val (.int p2), .val (.int p3)] [(.int (f3_0 p1 p2 p3 d0))])) t → Steps p.tables e below (s₁.setTop (entryFrame m #[(.ref a0), (.int p1), (.int p2), (.int p3)] 4)) t := fun t kt => pre162 _ (st163 t kt)
  have pre164 : ∀ t, Steps p.tables e below (T163.setTop (mkF m 13 #[.val (.ref a0), .val (.int p1), .val (.int p2), .val (.int p3)] [(.int p3), (.int p2), (.int p1), (.int (1 : Int32)), (.ref a0), (.int (f3_0 p1 p2 p3 d0))])) t → Steps p.tables e below (s₁.setTop (entryFrame m #[(.ref a0), (.int p1), (.int p2), (.int p3)] 4)) t := fun t kt => by
    refine pre163 _ ?_
    show Steps p.tables e below (T163.setTop (mkF m 8 #[.val (.ref a0), .val (.int p1), .val (.int p2), .val (.int p3)] [(.int (f3_0 p1 p2 p3 d0))])) _
    refine XS.aloadN X163.here hx rfl (hb hby d2_8) rfl rfl ?_
    show Steps p.tables e below (T163.setTop (mkF m 9 #[.val (.ref a0), .val (.int p1), .val (.int p2), .val (.int p3)] [(.ref a0), (.int (f3_0 p1 p2 p3 d0))])) _
    refine XS.iconst X163.here hx rfl (hb hby d2_9) ?_
    show Steps p.tables e below (T163.setTop (mkF m 10 #[.val (.ref a0), .val (.int p1), .val (.int p2), .val (.int p3)] [(.int (1 : Int32)), (.ref a0), (.int (f3_0 p1 p2 p3 d0))])) _
    refine XS.iloadN X163.here hx rfl (hb hby d2_10) rfl ?_
    show Steps p.tables e below (T163.setTop (mkF m 11 #[.val (.ref a0), .val (.int p1), .val (.int p2), .val (.int p3)] [(.int p1), (.int (1 : Int32)), (.ref a0), (.int (f3_0 p1 p2 p3 d0))])) _
    refine XS.iloadN X163.here hx rfl (hb hby d2_11) rfl ?_
    show Steps p.tables e below (T163.setTop (mkF m 12 #[.val (.ref a0), .val (.int p1), .val (.int p2), .val (.int p3)] [(.int p2), (.int p1), (.int (1 : Int32)), (.ref a0), (.int (f3_0 p1 p2 p3 d0))])) _
    refine XS.iloadN X163.here hx rfl (hb hby d2_12) rfl ?_
    show Steps p.tables e below (T163.setTop (mkF m 13 #[.val (.ref a0), .val (.int p1), .val (.int p2), .val (.int p3)] [(.int p3), (.int p2), (.int p1), (.int (1 : Int32)), (.ref a0), (.int (f3_0 p1 p2 p3 d0))])) _
    exact kt
  obtain ⟨_, _, ⟨T165, L165, k165, n165⟩, -, X165, ⟨Lc165, hQ165, l165, y165, z165⟩, st165⟩ := Jvm.LawKit.callS X163 hx (y := (⟨"com/example/leafweight/leafweight/BlockCodeCountPinLaw", "hit", "([BIIII)I"⟩ : MethodName)) hown (mvT hZ (hw _ (List.mem_of_getElem? (i := 11) rfl))) (mvT hZ (hw _ (List.mem_of_getElem? (i := 12) rfl))) (mvT hZ (hw _ (List.mem_of_getElem? (i := 9) rfl))) (mvT hZ (hw _ (List.mem_of_getElem? (i := 13) rfl))) (by decide) (backOf (W := 1) (rm3_1 l Z aZ hw [] a0 p1 p2 p3 kd d0 d1 d2 d3 h0 n0 Z0 V_a) hZ (hw _ (List.mem_of_getElem? (i := 13) rfl)) (hw _ (List.mem_of_getElem? (i := 9) rfl)) (by decide) (by decide)) (g := (mkF m 13 #[.val (.ref a0), .val (.int p1), .val (.int p2), .val (.int p3)] [(.int p3), (.int p2), (.int p1), (.int (1 : Int32)), (.ref a0), (.int (f3_0 p1 p2 p3 d0))])) rfl (by rw [hml]; rfl) (argsL := [(.ref a0), (.int (1 : Int32)), (.int p1), (.int p2), (.int p3)]) (rest := [(.int (f3_0 p1 p2 p3 d0))]) (lenOf pd_2 rfl) rfl (by show 2 * 0 + _ ≤ _; exact Nat.le_of_eq rfl) (hb hby d2_13) (fun _ _ => ⟨rfl, e163, (by decide : 0 + 0 ≤ _), (by decide : 0 + 0 ≤ _)⟩)
  dsimp only [Pt.U, Pt.locs, Pt.cells, Pt.slots] at X165 l165 y165 z165 st165 hQ165
  subst l165 y165 z165
  obtain ⟨rfl, N165q, e165⟩ := hQ165
  have N165 := Fr.app N163 N165q
  have pre165 : ∀ t, Steps p.tables e below (T165.setTop (mkF m 16 #[.val (.ref a0), .val (.int p1), .val (.int p2), .val (.int p3)] [(.int (f3_1 p1 p2 p3 d1)), (.int (f3_0 p1 p2 p3 d0))])) t → Steps p.tables e below (s₁.setTop (entryFrame m #[(.ref a0), (.int p1), (.int p2), (.int p3)] 4)) t := fun t kt => pre164 _ (st165 t kt)
  have pre166 : ∀ t, Steps p.tables e below (T165.setTop (mkF m 22 #[.val (.ref a0), .val (.int p1), .val (.int p2), .val (.int p3)] [(.int p3), (.int p2), (.int p1), (.int (2 : Int32)), (.ref a0), (.int ((f3_0 p1 p2 p3 d0) + (f3_1 p1 p2 p3 d1)))])) t → Steps p.tables e below (s₁.setTop (entryFrame m #[(.ref a0), (.int p1), (.int p2), (.int p3)] 4)) t := fun t kt => by
    refine pre165 _ ?_
    show Steps p.tables e below (T165.setTop (mkF m 16 #[.val (.ref a0), .val (.int p1), .val (.int p2), .val (.int p3)] [(.int (f3_1 p1 p2 p3 d1)), (.int (f3_0 p1 p2 p3 d0))])) _
    refine XS.iadd X165.here hx rfl (hb hby d2_16) rfl ?_
    show Steps p.tables e below (T165.setTop (mkF m 17 #[.val (.ref a0), .val (.int p1), .val (.int p2), .val (.int p3)] [(.int ((f3_0 p1 p2 p3 d0) + (f3_1 p1 p2 p3 d1)))])) _
    refine XS.aloadN X165.here hx rfl (hb hby d2_17) rfl rfl ?_
    show Steps p.tables e below (T165.setTop (mkF m 18 #[.val (.ref a0), .val (.int p1), .val (.int p2), .val (.int p3)] [(.ref a0), (.int ((f3_0 p1 p2 p3 d0) + (f3_1 p1 p2 p3 d1)))])) _
    refine XS.iconst X165.here hx rfl (hb hby d2_18) ?_
    show Steps p.tables e below (T165.setTop (mkF m 19 #[.val (.ref a0), .val (.int p1), .val (.int p2), .val (.int p3)] [(.int (2 : Int32)), (.ref a0), (.int ((f3_0 p1 p2 p3 d0) + (f3_1 p1 p2 p3 d1)))])) _
    refine XS.iloadN X165.here hx rfl (hb hby d2_19) rfl ?_
    show Steps p.tables e below (T165.setTop (mkF m 20 #[.val (.ref a0), .val (.int p1), .val (.int p2), .val (.int p3)] [(.int p1), (.int (2 : Int32)), (.ref a0), (.int ((f3_0 p1 p2 p3 d0) + (f3_1 p1 p2 p3 d1)))])) _
    refine XS.iloadN X165.here hx rfl (hb hby d2_20) rfl ?_
    show Steps p.tables e below (T165.setTop (mkF m 21 #[.val (.ref a0), .val (.int p1), .val (.int p2), .val (.int p3)] [(.int p2), (.int p1), (.int (2 : Int32)), (.ref a0), (.int ((f3_0 p1 p2 p3 d0) + (f3_1 p1 p2 p3 d1)))])) _
    refine XS.iloadN X165.here hx rfl (hb hby d2_21) rfl ?_
    show Steps p.tables e below (T165.setTop (mkF m 22 #[.val (.ref a0), .val (.int p1), .val (.int p2), .val (.int p3)] [(.int p3), (.int p2), (.int p1), (.int (2 : Int32)), (.ref a0), (.int ((f3_0 p1 p2 p3 d0) + (f3_1 p1 p2 p3 d1)))])) _
    exact kt
  obtain ⟨_, _, ⟨T167, L167, k167, n167⟩, -, X167, ⟨Lc167, hQ167, l167, y167, z167⟩, st167⟩ := Jvm.LawKit.callS X165 hx (y := (⟨"com/example/leafweight/leafweight/BlockCodeCountPinLaw", "hit", "([BIIII)I"⟩ : MethodName)) hown (mvT hZ (hw _ (List.mem_of_getElem? (i := 11) rfl))) (mvT hZ (hw _ (List.mem_of_getElem? (i := 12) rfl))) (mvT hZ (hw _ (List.mem_of_getElem? (i := 9) rfl))) (mvT hZ (hw _ (List.mem_of_getElem? (i := 13) rfl))) (by decide) (backOf (W := 1) (rm3_2 l Z aZ hw [] a0 p1 p2 p3 kd d0 d1 d2 d3 h0 n0 Z0 V_a) hZ (hw _ (List.mem_of_getElem? (i := 13) rfl)) (hw _ (List.mem_of_getElem? (i := 9) rfl)) (by decide) (by decide)) (g := (mkF m 22 #[.val (.ref a0), .val (.int p1), .val (.int p2), .val (.int p3)] [(.int p3), (.int p2), (.int p1), (.int (2 : Int32)), (.ref a0), (.int ((f3_0 p1 p2 p3 d0) + (f3_1 p1 p2 p3 d1)))])) rfl (by rw [hml]; rfl) (argsL := [(.ref a0), (.int (2 : Int32)), (.int p1), (.int p2), (.int p3)]) (rest := [(.int ((f3_0 p1 p2 p3 d0) + (f3_1 p1 p2 p3 d1)))]) (lenOf pd_2 rfl) rfl (by show 2 * 0 + _ ≤ _; exact Nat.le_of_eq rfl) (hb hby d2_22) (fun _ _ => ⟨rfl, e165, (by decide : 0 + 0 ≤ _), (by decide : 0 + 0 ≤ _)⟩)
  dsimp only [Pt.U, Pt.locs, Pt.cells, Pt.slots] at X167 l167 y167 z167 st167 hQ167
  subst l167 y167 z167
  obtain ⟨rfl, N167q, e167⟩ := hQ167
  have N167 := Fr.app N165 N167q
  have pre167 : ∀ t, Steps p.tables e below (T167.setTop (mkF m 25 #[.val (.ref a0), .val (.int p1), .val (.int p2), .val (.int p3)] [(.int (f3_2 p1 p2 p3 d2)), (.int ((f3_0 p1 p2 p3 d0) + (f3_1 p1 p2 p3 d1)))])) t → Steps p.tables e below (s₁.setTop (entryFrame m #[(.ref a0), (.int p1), (.int p2), (.int p3)] 4)) t := fun t kt => pre166 _ (st167 t kt)
  have pre168 : ∀ t, Steps p.tables e below (T167.setTop (mkF m 31 #[.val (.ref a0), .val (.int p1), .val (.int p2), .val (.int p3)] [(.int p3), (.int p2), (.int p1), (.int (3 : Int32)), (.ref a0), (.int (((f3_0 p1 p2 p3 d0) + (f3_1 p1 p2 p3 d1)) + (f3_2 p1 p2 p3 d2)))])) t → Steps p.tables e below (s₁.setTop (entryFrame m #[(.ref a0), (.int p1), (.int p2), (.int p3)] 4)) t := fun t kt => by
    refine pre167 _ ?_
    show Steps p.tables e below (T167.setTop (mkF m 25 #[.val (.ref a0), .val (.int p1), .val (.int p2), .val (.int p3)] [(.int (f3_2 p1 p2 p3 d2)), (.int ((f3_0 p1 p2 p3 d0) + (f3_1 p1 p2 p3 d1)))])) _
    refine XS.iadd X167.here hx rfl (hb hby d2_25) rfl ?_
    show Steps p.tables e below (T167.setTop (mkF m 26 #[.val (.ref a0), .val (.int p1), .val (.int p2), .val (.int p3)] [(.int (((f3_0 p1 p2 p3 d0) + (f3_1 p1 p2 p3 d1)) + (f3_2 p1 p2 p3 d2)))])) _
    refine XS.aloadN X167.here hx rfl (hb hby d2_26) rfl rfl ?_
    show Steps p.tables e below (T167.setTop (mkF m 27 #[.val (.ref a0), .val (.int p1), .val (.int p2), .val (.int p3)] [(.ref a0), (.int (((f3_0 p1 p2 p3 d0) + (f3_1 p1 p2 p3 d1)) + (f3_2 p1 p2 p3 d2)))])) _
    refine XS.iconst X167.here hx rfl (hb hby d2_27) ?_
    show Steps p.tables e below (T167.setTop (mkF m 28 #[.val (.ref a0), .val (.int p1), .val (.int p2), .val (.int p3)] [(.int (3 : Int32)), (.ref a0), (.int (((f3_0 p1 p2 p3 d0) + (f3_1 p1 p2 p3 d1)) + (f3_2 p1 p2 p3 d2)))])) _
    refine XS.iloadN X167.here hx rfl (hb hby d2_28) rfl ?_
    show Steps p.tables e below (T167.setTop (mkF m 29 #[.val (.ref a0), .val (.int p1), .val (.int p2), .val (.int p3)] [(.int p1), (.int (3 : Int32)), (.ref a0), (.int (((f3_0 p1 p2 p3 d0) + (f3_1 p1 p2 p3 d1)) + (f3_2 p1 p2 p3 d2)))])) _
    refine XS.iloadN X167.here hx rfl (hb hby d2_29) rfl ?_
    show Steps p.tables e below (T167.setTop (mkF m 30 #[.val (.ref a0), .val (.int p1), .val (.int p2), .val (.int p3)] [(.int p2), (.int p1), (.int (3 : Int32)), (.ref a0), (.int (((f3_0 p1 p2 p3 d0) + (f3_1 p1 p2 p3 d1)) + (f3_2 p1 p2 p3 d2)))])) _
    refine XS.iloadN X167.here hx rfl (hb hby d2_30) rfl ?_
    show Steps p.tables e below (T167.setTop (mkF m 31 #[.val (.ref a0), .val (.int p1), .val (.int p2), .val (.int p3)] [(.int p3), (.int p2), (.int p1), (.int (3 : Int32)), (.ref a0), (.int (((f3_0 p1 p2 p3 d0) + (f3_1 p1 p2 p3 d1)) + (f3_2 p1 p2 p3 d2)))])) _
    exact kt
  obtain ⟨_, _, ⟨T169, L169, k169, n169⟩, -, X169, ⟨Lc169, hQ169, l169, y169, z169⟩, st169⟩ := Jvm.LawKit.callS X167 hx (y := (⟨"com/example/leafweight/leafweight/BlockCodeCountPinLaw", "hit", "([BIIII)I"⟩ : MethodName)) hown (mvT hZ (hw _ (List.mem_of_getElem? (i := 11) rfl))) (mvT hZ (hw _ (List.mem_of_getElem? (i := 12) rfl))) (mvT hZ (hw _ (List.mem_of_getElem? (i := 9) rfl))) (mvT hZ (hw _ (List.mem_of_getElem? (i := 13) rfl))) (by decide) (backOf (W := 1) (rm3_3 l Z aZ hw [] a0 p1 p2 p3 kd d0 d1 d2 d3 h0 n0 Z0 V_a) hZ (hw _ (List.mem_of_getElem? (i := 13) rfl)) (hw _ (List.mem_of_getElem? (i := 9) rfl)) (by decide) (by decide)) (g := (mkF m 31 #[.val (.ref a0), .val (.int p1), .val (.int p2), .val (.int p3)] [(.int p3), (.int p2), (.int p1), (.int (3 : Int32)), (.ref a0), (.int (((f3_0 p1 p2 p3 d0) + (f3_1 p1 p2 p3 d1)) + (f3_2 p1 p2 p3 d2)))])) rfl (by rw [hml]; rfl) (argsL := [(.ref a0), (.int (3 : Int32)), (.int p1), (.int p2), (.int p3)]) (rest := [(.int (((f3_0 p1 p2 p3 d0) + (f3_1 p1 p2 p3 d1)) + (f3_2 p1 p2 p3 d2)))]) (lenOf pd_2 rfl) rfl (by show 2 * 0 + _ ≤ _; exact Nat.le_of_eq rfl) (hb hby d2_31) (fun _ _ => ⟨rfl, e167, (by decide : 0 + 0 ≤ _), (by decide : 0 + 0 ≤ _)⟩)
  dsimp only [Pt.U, Pt.locs, Pt.cells, Pt.slots] at X169 l169 y169 z169 st169 hQ169
  subst l169 y169 z169
  obtain ⟨rfl, N169q, e169⟩ := hQ169
  have N169 := Fr.app N167 N169q
  have pre169 : ∀ t, Steps p.tables e below (T169.setTop (mkF m 34 #[.val (.ref a0), .val (.int p1), .val (.int p2), .val (.int p3)] [(.int (f3_3 p1 p2 p3 d3)), (.int (((f3_0 p1 p2 p3 d0) + (f3_1 p1 p2 p3 d1)) + (f3_2 p1 p2 p3 d2)))])) t → Steps p.tables e below (s₁.setTop (entryFrame m #[(.ref a0), (.int p1), (.int p2), (.int p3)] 4)) t := fun t kt => pre168 _ (st169 t kt)
  have pre170 : ∀ t, Steps p.tables e below (T169.setTop (mkF m 35 #[.val (.ref a0), .val (.int p1), .val (.int p2), .val (.int p3)] [(.int ((((f3_0 p1 p2 p3 d0) + (f3_1 p1 p2 p3 d1)) + (f3_2 p1 p2 p3 d2)) + (f3_3 p1 p2 p3 d3)))])) t → Steps p.tables e below (s₁.setTop (entryFrame m #[(.ref a0), (.int p1), (.int p2), (.int p3)] 4)) t := fun t kt => by
    refine pre169 _ ?_
    show Steps p.tables e below (T169.setTop (mkF m 34 #[.val (.ref a0), .val (.int p1), .val (.int p2), .val (.int p3)] [(.int (f3_3 p1 p2 p3 d3)), (.int (((f3_0 p1 p2 p3 d0) + (f3_1 p1 p2 p3 d1)) + (f3_2 p1 p2 p3 d2)))])) _
    refine XS.iadd X169.here hx rfl (hb hby d2_34) rfl ?_
    show Steps p.tables e below (T169.setTop (mkF m 35 #[.val (.ref a0), .val (.int p1), .val (.int p2), .val (.int p3)] [(.int ((((f3_0 p1 p2 p3 d0) + (f3_1 p1 p2 p3 d1)) + (f3_2 p1 p2 p3 d2)) + (f3_3 p1 p2 p3 d3)))])) _
    exact kt
  obtain ⟨fs, hr, hrun, hended, hW, hsame⟩ := X169.leave (v := some (.int ((((f3_0 p1 p2 p3 d0) + (f3_1 p1 p2 p3 d1)) + (f3_2 p1 p2 p3 d2)) + (f3_3 p1 p2 p3 d3)))) (fun h => by rw [Bd.returns] at h; cases h)
  refine ⟨_, _, pre170 _ ?_, hrun, hended, _, _, rfl, ?_, ⟨_, rfl⟩, hW, hsame.mono (by decide) (by decide)⟩
  · show Steps p.tables e below (T169.setTop (mkF m 35 #[.val (.ref a0), .val (.int p1), .val (.int p2), .val (.int p3)] [(.int ((((f3_0 p1 p2 p3 d0) + (f3_1 p1 p2 p3 d1)) + (f3_2 p1 p2 p3 d2)) + (f3_3 p1 p2 p3 d3)))])) _
    exact retI X169 hx Bd.returns (hb hby d2_35) hr
  · have hv : f2 p1 p2 p3 d0 d1 d2 d3 = ((((f3_0 p1 p2 p3 d0) + (f3_1 p1 p2 p3 d1)) + (f3_2 p1 p2 p3 d2)) + (f3_3 p1 p2 p3 d3)) := by unfold f2; rfl
    show Q2 p1 p2 p3 d0 d1 d2 d3 h0 n0 _ T169.heap _
    rw [e169]
    exact ⟨by rw [hv], N169, rfl⟩
theorem d1_0 : decode prog_9_method_3_code 0 = .ok (.sipush 256, 3) := by decide +kernel
theorem d1_3 : decode prog_9_method_3_code 3 = .ok (.newarray .int, 2) := by decide +kernel
theorem d1_5 : decode prog_9_method_3_code 5 = .ok (.astore_n 3, 1) := by decide +kernel
theorem d1_6 : decode prog_9_method_3_code 6 = .ok (.iload_n 1, 1) := by decide +kernel
theorem d1_7 : decode prog_9_method_3_code 7 = .ok (.istore 4, 2) := by decide +kernel
theorem d1_9 : decode prog_9_method_3_code 9 = .ok (.iload 4, 2) := by decide +kernel
theorem d1_11 : decode prog_9_method_3_code 11 = .ok (.iload_n 1, 1) := by decide +kernel
theorem d1_12 : decode prog_9_method_3_code 12 = .ok (.iload_n 2, 1) := by decide +kernel
theorem d1_13 : decode prog_9_method_3_code 13 = .ok (.iadd, 1) := by decide +kernel
theorem d1_14 : decode prog_9_method_3_code 14 = .ok (.if_icmp .ge 23, 3) := by decide +kernel
theorem d1_17 : decode prog_9_method_3_code 17 = .ok (.aload_n 3, 1) := by decide +kernel
theorem d1_18 : decode prog_9_method_3_code 18 = .ok (.aload_n 0, 1) := by decide +kernel
theorem d1_19 : decode prog_9_method_3_code 19 = .ok (.iload 4, 2) := by decide +kernel
theorem d1_21 : decode prog_9_method_3_code 21 = .ok (.baload, 1) := by decide +kernel
theorem d1_22 : decode prog_9_method_3_code 22 = .ok (.sipush 255, 3) := by decide +kernel
theorem d1_25 : decode prog_9_method_3_code 25 = .ok (.iand, 1) := by decide +kernel
theorem d1_26 : decode prog_9_method_3_code 26 = .ok (.dup2, 1) := by decide +kernel
theorem d1_27 : decode prog_9_method_3_code 27 = .ok (.iaload, 1) := by decide +kernel
theorem d1_28 : decode prog_9_method_3_code 28 = .ok (.iconst 1, 1) := by decide +kernel
theorem d1_29 : decode prog_9_method_3_code 29 = .ok (.iadd, 1) := by decide +kernel
theorem d1_30 : decode prog_9_method_3_code 30 = .ok (.iastore, 1) := by decide +kernel
theorem d1_31 : decode prog_9_method_3_code 31 = .ok (.iinc 4 1, 3) := by decide +kernel
theorem d1_34 : decode prog_9_method_3_code 34 = .ok (.goto (-25), 3) := by decide +kernel
theorem d1_37 : decode prog_9_method_3_code 37 = .ok (.aload_n 3, 1) := by decide +kernel
theorem d1_38 : decode prog_9_method_3_code 38 = .ok (.areturn, 1) := by decide +kernel
theorem pn_1 : plainName "com/example/leafweight/leafweight/BlockCode" = true := by first | (simp [plainName, overriddenIn]; done) | decide +kernel
theorem ef_1 (m : MethodId) (x0 : Addr) (x1 : Int32) (x2 : Int32) : entryFrame m #[(.ref x0), (.int x1), (.int x2)] 5 = mkF m 0 #[.val (.ref x0), .val (.int x1), .val (.int x2), .unset, .unset] [] := by first | (simp [entryFrame, mkF, argsToLocals, Value.category]; done) | rfl
def Q1 (Z : State) (o n : Nat) (d0 d1 d2 d3 : Int32) (h0 : Heap) (n0 : Nat) (v : Option Value) (h : Heap) (L : List Loc) : Prop := ∃ (ca : Addr) (kc : ClassId), v = some (.ref ca) ∧ Fr n0 L ∧ Keep h0 h [] ∧ h0.size ≤ ca ∧ Arv Z h ca kc .int (256 : Int32) (own_L (own_F (own_D d0 d1 d2 d3) o n)) (.int (0 : Int32))
set_option maxRecDepth 65536 in
set_option maxHeartbeats 40000000 in
theorem rm1 (l : Launch) (Z : State) (aZ : Array Value) (hw : ∀ d ∈ tables_1, d.before aZ Z = true) (ws : List Jvm.Cond) (a0 : Addr) (o n : Nat) (kd : ClassId) (d0 d1 d2 d3 : Int32) (h0 : Heap) (n0 : Nat) (Z0 : n0 ≤ h0.size) (V_a : Arv Z h0 a0 kd .byte (4 : Int32) [(.int d0), (.int d1), (.int d2), (.int d3)] (.int (0 : Int32))) (hon : o + n ≤ 4) :
    MetFree l (⟨"com/example/leafweight/leafweight/BlockCode", "count", "([BII)[I"⟩ : MethodName) (head1 (Jvm.Cond.code (⟨"com/example/leafweight/leafweight/BlockCode", "count", "([BII)[I"⟩ : MethodName) prog_9_method_3_code 5 (some (.array .int)) :: ws) ({ frames := 0, cells := 1, slots := 256, locals := 0 } : Room)) (fun a U => a = #[(.ref a0), (.int (Int32.ofNat o)), (.int (Int32.ofNat n))] ∧ Z.Warmed39 U.vm ∧ U.heap = h0) (fun _ _ _ _ _ => True) (fun _ U oc U' => ∃ v L, oc = .returned v ∧ Q1 Z o n d0 d1 d2 d3 h0 n0 v U'.heap L ∧ FrameEnd U oc U' L ({ frames := 0, cells := 1, slots := 256, locals := 0 } : Room).cells ({ frames := 0, cells := 1, slots := 256, locals := 0 } : Room).slots) := by
  refine MetFree.of_bodySF (plainFor_of_name pn_1) hisR ?_
  intro p e s m args below meth c s₁ Bd hml0 hP hK
  obtain ⟨rfl, hZ, hh⟩ := hP
  have hx := Bd.exec
  have hby := Bd.bytes
  have hml : c.maxLocals = 5 := hml0
  have hown : s.vm.findClass "com/example/leafweight/leafweight/BlockCode" = some m.cls := findClass_of_methodNamed Bd.named
  have hnm := (name_of_methodNamed Bd.named Bd.method).1
  have X0 : Stand p l e ({ frames := 0, cells := 1, slots := 256, locals := 0 } : Room) s m #[(.ref a0), (.int (Int32.ofNat o)), (.int (Int32.ofNat n))] below meth c s₁ [] 0 0 := Stand.of_body Bd
  have e0 : s₁.heap = h0 := by rw [← hh, Bd.state]; rfl
  have N0 := Fr.nil n0
  have pre0 : ∀ t, Steps p.tables e below (s₁.setTop (mkF m 0 #[.val (.ref a0), .val (.int (Int32.ofNat o)), .val (.int (Int32.ofNat n)), .unset, .unset] [])) t → Steps p.tables e below (s₁.setTop (entryFrame m #[(.ref a0), (.int (Int32.ofNat o)), (.int (Int32.ofNat n))] 5)) t := fun t kt => castTop (ef_1 m a0 (Int32.ofNat o) (Int32.ofNat n)) kt
  have pre171 : ∀ t, Steps p.tables e below (s₁.setTop (mkF m 3 #[.val (.ref a0), .val (.int (Int32.ofNat o)), .val (.int (Int32.ofNat n)), .unset, .unset] [(.int (256 : Int32))])) t → Steps p.tables e below (s₁.setTop (entryFrame m #[(.ref a0), (.int (Int32.ofNat o)), (.int (Int32.ofNat n))] 5)) t := fun t kt => by
    refine pre0 _ ?_
    show Steps p.tables e below (s₁.setTop (mkF m 0 #[.val (.ref a0), .val (.int (Int32.ofNat o)), .val (.int (Int32.ofNat n)), .unset, .unset] [])) _
    refine XS.sipush X0.here hx rfl (hb hby d1_0) ?_
    show Steps p.tables e below (s₁.setTop (mkF m 3 #[.val (.ref a0), .val (.int (Int32.ofNat o)), .val (.int (Int32.ofNat n)), .unset, .unset] [(.int (256 : Int32))])) _
    exact kt
  obtain ⟨T172, h172, k172, X172, e172, E172, A172, st172⟩ := newP X0 hx hZ (hw _ (List.mem_of_getElem? (i := 6) rfl)) e0 (g := (mkF m 3 #[.val (.ref a0), .val (.int (Int32.ofNat o)), .val (.int (Int32.ofNat n)), .unset, .unset] [(.int (256 : Int32))])) rfl (hb hby d1_3) rfl (by decide) (cap := 256) (by decide) (by decide) (by decide) (by decide)
  obtain ⟨b172, g172⟩ : ∃ z, z = h0.size := ⟨_, rfl⟩
  have ne_a0_b172 : a0 ≠ b172 := Nat.ne_of_lt (Nat.lt_of_lt_of_le V_a.lt (Nat.le_of_eq g172.symm))
  have g_b172 : n0 ≤ b172 := Nat.le_trans Z0 (Nat.le_of_eq g172.symm)
  have sz_b172 : h0.size ≤ b172 := Nat.le_of_eq g172.symm
  rw [← g172] at A172 st172
  have F172_0 := V_a.ext E172
  have Zs172 : n0 ≤ h172.size := Nat.le_trans Z0 E172.1
  have K0 := Keep.refl h0 []
  have K172 := K0.ext E172
  have V_b172 : Arv Z h172 b172 k172 .int (256 : Int32) [] (.int (0 : Int32)) := Arv.new A172 (by decide)
  have pre172 : ∀ t, Steps p.tables e below (T172.setTop (mkF m 5 #[.val (.ref a0), .val (.int (Int32.ofNat o)), .val (.int (Int32.ofNat n)), .unset, .unset] [(.ref b172)])) t → Steps p.tables e below (s₁.setTop (entryFrame m #[(.ref a0), (.int (Int32.ofNat o)), (.int (Int32.ofNat n))] 5)) t := fun t kt => pre171 _ (st172 t kt)
  have pre173 : ∀ t, Steps p.tables e below (T172.setTop (mkF m 9 #[.val (.ref a0), .val (.int (Int32.ofNat o)), .val (.int (Int32.ofNat n)), .val (.ref b172), .val (.int (Int32.ofNat o))] [])) t → Steps p.tables e below (s₁.setTop (entryFrame m #[(.ref a0), (.int (Int32.ofNat o)), (.int (Int32.ofNat n))] 5)) t := fun t kt => by
    refine pre172 _ ?_
    show Steps p.tables e below (T172.setTop (mkF m 5 #[.val (.ref a0), .val (.int (Int32.ofNat o)), .val (.int (Int32.ofNat n)), .unset, .unset] [(.ref b172)])) _
    refine XS.astoreN X172.here hx rfl (hb hby d1_5) rfl rfl (l' := #[.val (.ref a0), .val (.int (Int32.ofNat o)), .val (.int (Int32.ofNat n)), .val (.ref b172), .unset]) rfl ?_
    show Steps p.tables e below (T172.setTop (mkF m 6 #[.val (.ref a0), .val (.int (Int32.ofNat o)), .val (.int (Int32.ofNat n)), .val (.ref b172), .unset] [])) _
    refine XS.iloadN X172.here hx rfl (hb hby d1_6) rfl ?_
    show Steps p.tables e below (T172.setTop (mkF m 7 #[.val (.ref a0), .val (.int (Int32.ofNat o)), .val (.int (Int32.ofNat n)), .val (.ref b172), .unset] [(.int (Int32.ofNat o))])) _
    refine XS.istore X172.here hx rfl (hb hby d1_7) rfl (l' := #[.val (.ref a0), .val (.int (Int32.ofNat o)), .val (.int (Int32.ofNat n)), .val (.ref b172), .val (.int (Int32.ofNat o))]) rfl ?_
    show Steps p.tables e below (T172.setTop (mkF m 9 #[.val (.ref a0), .val (.int (Int32.ofNat o)), .val (.int (Int32.ofNat n)), .val (.ref b172), .val (.int (Int32.ofNat o))] [])) _
    exact kt
  have Vz := V_b172.pad (own_L_zero (own_D d0 d1 d2 d3) o)
  have loop174 : ∀ k : Nat, k ≤ n → ∃ (T : State) (L : List Loc), Stand p l e ({ frames := 0, cells := 1, slots := 256, locals := 0 } : Room) s m #[(.ref a0), (.int (Int32.ofNat o)), (.int (Int32.ofNat n))] below meth c T L 1 256 ∧ Fr n0 L ∧ Keep h0 T.heap [] ∧ Arv Z T.heap a0 kd .byte (4 : Int32) [(.int d0), (.int d1), (.int d2), (.int d3)] (.int (0 : Int32)) ∧ Arv Z T.heap b172 k172 .int (256 : Int32) (own_L (own_F (own_D d0 d1 d2 d3) o k)) (.int (0 : Int32)) ∧ ∀ t, Steps p.tables e below (T.setTop (mkF m 9 #[.val (.ref a0), .val (.int (Int32.ofNat o)), .val (.int (Int32.ofNat n)), .val (.ref b172), .val (.int (Int32.ofNat (o + k)))] [])) t → Steps p.tables e below (s₁.setTop (entryFrame m #[(.ref a0), (.int (Int32.ofNat o)), (.int (Int32.ofNat n))] 5)) t := by
    intro k
    induction k with
    | zero => intro _; exact ⟨T172, _, X172, N0, by rw [e172]; exact K172, by rw [e172]; exact F172_0, by rw [e172]; exact Vz, pre173⟩
    | succ k ih =>
      intro hk
      obtain ⟨T174l, L174l, X174l, N174l, K174l, I174_0l, I174_1l, pre174l⟩ := ih (by omega)
      have Zs174l : n0 ≤ T174l.heap.size := Nat.le_trans Z0 K174l.1
      have pre175 : ∀ t, Steps p.tables e below (T174l.setTop (mkF m 14 #[.val (.ref a0), .val (.int (Int32.ofNat o)), .val (.int (Int32.ofNat n)), .val (.ref b172), .val (.int (Int32.ofNat (o + k)))] [(.int ((Int32.ofNat o) + (Int32.ofNat n))), (.int (Int32.ofNat (o + k)))])) t → Steps p.tables e below (s₁.setTop (entryFrame m #[(.ref a0), (.int (Int32.ofNat o)), (.int (Int32.ofNat n))] 5)) t := fun t kt => by
        refine pre174l _ ?_
        show Steps p.tables e below (T174l.setTop (mkF m 9 #[.val (.ref a0), .val (.int (Int32.ofNat o)), .val (.int (Int32.ofNat n)), .val (.ref b172), .val (.int (Int32.ofNat (o + k)))] [])) _
        refine XS.iload X174l.here hx rfl (hb hby d1_9) rfl ?_
        show Steps p.tables e below (T174l.setTop (mkF m 11 #[.val (.ref a0), .val (.int (Int32.ofNat o)), .val (.int (Int32.ofNat n)), .val (.ref b172), .val (.int (Int32.ofNat (o + k)))] [(.int (Int32.ofNat (o + k)))])) _
        refine XS.iloadN X174l.here hx rfl (hb hby d1_11) rfl ?_
        show Steps p.tables e below (T174l.setTop (mkF m 12 #[.val (.ref a0), .val (.int (Int32.ofNat o)), .val (.int (Int32.ofNat n)), .val (.ref b172), .val (.int (Int32.ofNat (o + k)))] [(.int (Int32.ofNat o)), (.int (Int32.ofNat (o + k)))])) _
        refine XS.iloadN X174l.here hx rfl (hb hby d1_12) rfl ?_
        show Steps p.tables e below (T174l.setTop (mkF m 13 #[.val (.ref a0), .val (.int (Int32.ofNat o)), .val (.int (Int32.ofNat n)), .val (.ref b172), .val (.int (Int32.ofNat (o + k)))] [(.int (Int32.ofNat n)), (.int (Int32.ofNat o)), (.int (Int32.ofNat (o + k)))])) _
        refine XS.iadd X174l.here hx rfl (hb hby d1_13) rfl ?_
        show Steps p.tables e below (T174l.setTop (mkF m 14 #[.val (.ref a0), .val (.int (Int32.ofNat o)), .val (.int (Int32.ofNat n)), .val (.ref b172), .val (.int (Int32.ofNat (o + k)))] [(.int ((Int32.ofNat o) + (Int32.ofNat n))), (.int (Int32.ofNat (o + k)))])) _
        exact kt
      have pre176 : ∀ t, Steps p.tables e below (T174l.setTop (mkF m 17 #[.val (.ref a0), .val (.int (Int32.ofNat o)), .val (.int (Int32.ofNat n)), .val (.ref b172), .val (.int (Int32.ofNat (o + k)))] [])) t → Steps p.tables e below (s₁.setTop (entryFrame m #[(.ref a0), (.int (Int32.ofNat o)), (.int (Int32.ofNat n))] 5)) t := fun t kt => by
        refine pre175 _ ?_
        show Steps p.tables e below (T174l.setTop (mkF m 14 #[.val (.ref a0), .val (.int (Int32.ofNat o)), .val (.int (Int32.ofNat n)), .val (.ref b172), .val (.int (Int32.ofNat (o + k)))] [(.int ((Int32.ofNat o) + (Int32.ofNat n))), (.int (Int32.ofNat (o + k)))])) _
        refine XS.icmpNo X174l.here hx rfl (hb hby d1_14) rfl (tlt (own_go hon (by omega))).2.1 ?_
        show Steps p.tables e below (T174l.setTop (mkF m 17 #[.val (.ref a0), .val (.int (Int32.ofNat o)), .val (.int (Int32.ofNat n)), .val (.ref b172), .val (.int (Int32.ofNat (o + k)))] [])) _
        exact kt
      have pre177 : ∀ t, Steps p.tables e below (T174l.setTop (mkF m 21 #[.val (.ref a0), .val (.int (Int32.ofNat o)), .val (.int (Int32.ofNat n)), .val (.ref b172), .val (.int (Int32.ofNat (o + k)))] [(.int (Int32.ofNat (o + k))), (.ref a0), (.ref b172)])) t → Steps p.tables e below (s₁.setTop (entryFrame m #[(.ref a0), (.int (Int32.ofNat o)), (.int (Int32.ofNat n))] 5)) t := fun t kt => by
        refine pre176 _ ?_
        show Steps p.tables e below (T174l.setTop (mkF m 17 #[.val (.ref a0), .val (.int (Int32.ofNat o)), .val (.int (Int32.ofNat n)), .val (.ref b172), .val (.int (Int32.ofNat (o + k)))] [])) _
        refine XS.aloadN X174l.here hx rfl (hb hby d1_17) rfl rfl ?_
        show Steps p.tables e below (T174l.setTop (mkF m 18 #[.val (.ref a0), .val (.int (Int32.ofNat o)), .val (.int (Int32.ofNat n)), .val (.ref b172), .val (.int (Int32.ofNat (o + k)))] [(.ref b172)])) _
        refine XS.aloadN X174l.here hx rfl (hb hby d1_18) rfl rfl ?_
        show Steps p.tables e below (T174l.setTop (mkF m 19 #[.val (.ref a0), .val (.int (Int32.ofNat o)), .val (.int (Int32.ofNat n)), .val (.ref b172), .val (.int (Int32.ofNat (o + k)))] [(.ref a0), (.ref b172)])) _
        refine XS.iload X174l.here hx rfl (hb hby d1_19) rfl ?_
        show Steps p.tables e below (T174l.setTop (mkF m 21 #[.val (.ref a0), .val (.int (Int32.ofNat o)), .val (.int (Int32.ofNat n)), .val (.ref b172), .val (.int (Int32.ofNat (o + k)))] [(.int (Int32.ofNat (o + k))), (.ref a0), (.ref b172)])) _
        exact kt
      have hk4 : o + k < 4 := by omega
      have Vo_a0_178 := I174_0l
      obtain ⟨cl_a0_178, Ar_a0_178, q_a0_178, S_a0_178, M_a0_178, H_a0_178, G_a0_178⟩ := Vo_a0_178
      have hin178 : ¬ ((Int32.ofNat (o + k)) < 0 ∨ cl_a0_178.slots.size ≤ ((Int32.ofNat (o + k))).toNatClampNeg) := inb_of S_a0_178 ⟨(own_i hk4).1, (own_i hk4).2.1⟩
      have hat178 : cl_a0_178.slots[((Int32.ofNat (o + k))).toNatClampNeg]? = some (.int (own_D d0 d1 d2 d3 (o + k))) := H_a0_178.at (inb_of S_a0_178 ⟨(own_i hk4).1, (own_i hk4).2.1⟩) (by rw [(own_i hk4).2.2]; exact own_D_at d0 d1 d2 d3 (o + k) hk4)
      have pre179 : ∀ t, Steps p.tables e below (T174l.setTop (mkF m 22 #[.val (.ref a0), .val (.int (Int32.ofNat o)), .val (.int (Int32.ofNat n)), .val (.ref b172), .val (.int (Int32.ofNat (o + k)))] [(.int (own_D d0 d1 d2 d3 (o + k))), (.ref b172)])) t → Steps p.tables e below (s₁.setTop (entryFrame m #[(.ref a0), (.int (Int32.ofNat o)), (.int (Int32.ofNat n))] 5)) t := fun t kt => pre177 _ (X174l.baloadBytes hx (j := (Int32.ofNat (o + k))) (v := (.int (own_D d0 d1 d2 d3 (o + k)))) Ar_a0_178.1 (State.isArrayOf_alike hZ.alike Ar_a0_178.2.1) Ar_a0_178.2.2 hin178 hat178 (g := (mkF m 21 #[.val (.ref a0), .val (.int (Int32.ofNat o)), .val (.int (Int32.ofNat n)), .val (.ref b172), .val (.int (Int32.ofNat (o + k)))] [(.int (Int32.ofNat (o + k))), (.ref a0), (.ref b172)])) rfl rfl (hb hby d1_21) t kt)
      have pre180 : ∀ t, Steps p.tables e below (T174l.setTop (mkF m 27 #[.val (.ref a0), .val (.int (Int32.ofNat o)), .val (.int (Int32.ofNat n)), .val (.ref b172), .val (.int (Int32.ofNat (o + k)))] [(.int ((own_D d0 d1 d2 d3 (o + k)) &&& (255 : Int32))), (.ref b172), (.int ((own_D d0 d1 d2 d3 (o + k)) &&& (255 : Int32))), (.ref b172)])) t → Steps p.tables e below (s₁.setTop (entryFrame m #[(.ref a0), (.int (Int32.ofNat o)), (.int (Int32.ofNat n))] 5)) t := fun t kt => by
        refine pre179 _ ?_
        show Steps p.tables e below (T174l.setTop (mkF m 22 #[.val (.ref a0), .val (.int (Int32.ofNat o)), .val (.int (Int32.ofNat n)), .val (.ref b172), .val (.int (Int32.ofNat (o + k)))] [(.int (own_D d0 d1 d2 d3 (o + k))), (.ref b172)])) _
        refine XS.sipush X174l.here hx rfl (hb hby d1_22) ?_
        show Steps p.tables e below (T174l.setTop (mkF m 25 #[.val (.ref a0), .val (.int (Int32.ofNat o)), .val (.int (Int32.ofNat n)), .val (.ref b172), .val (.int (Int32.ofNat (o + k)))] [(.int (255 : Int32)), (.int (own_D d0 d1 d2 d3 (o + k))), (.ref b172)])) _
        refine XS.iand X174l.here hx rfl (hb hby d1_25) rfl ?_
        show Steps p.tables e below (T174l.setTop (mkF m 26 #[.val (.ref a0), .val (.int (Int32.ofNat o)), .val (.int (Int32.ofNat n)), .val (.ref b172), .val (.int (Int32.ofNat (o + k)))] [(.int ((own_D d0 d1 d2 d3 (o + k)) &&& (255 : Int32))), (.ref b172)])) _
        refine Jvm.Free.XT.dup2 X174l.here hx rfl (hb hby d1_26) rfl rfl rfl ?_
        show Steps p.tables e below (T174l.setTop (mkF m 27 #[.val (.ref a0), .val (.int (Int32.ofNat o)), .val (.int (Int32.ofNat n)), .val (.ref b172), .val (.int (Int32.ofNat (o + k)))] [(.int ((own_D d0 d1 d2 d3 (o + k)) &&& (255 : Int32))), (.ref b172), (.int ((own_D d0 d1 d2 d3 (o + k)) &&& (255 : Int32))), (.ref b172)])) _
        exact kt
      have hbd := own_b (own_D d0 d1 d2 d3 (o + k))
      have Vo_b172_181 := I174_1l
      obtain ⟨cl_b172_181, Ar_b172_181, q_b172_181, S_b172_181, M_b172_181, H_b172_181, G_b172_181⟩ := Vo_b172_181
      have hin181 : ¬ (((own_D d0 d1 d2 d3 (o + k)) &&& (255 : Int32)) < 0 ∨ cl_b172_181.slots.size ≤ (((own_D d0 d1 d2 d3 (o + k)) &&& (255 : Int32))).toNatClampNeg) := inb_of S_b172_181 ⟨hbd.1, hbd.2.1⟩
      have hat181 : cl_b172_181.slots[(((own_D d0 d1 d2 d3 (o + k)) &&& (255 : Int32))).toNatClampNeg]? = some (.int (own_F (own_D d0 d1 d2 d3) o k ((own_D d0 d1 d2 d3 (o + k)) &&& (255 : Int32)).toNatClampNeg)) := H_b172_181.at (inb_of S_b172_181 ⟨hbd.1, hbd.2.1⟩) (own_L_at _ _ hbd.2.2)
      have pre182 : ∀ t, Steps p.tables e below (T174l.setTop (mkF m 28 #[.val (.ref a0), .val (.int (Int32.ofNat o)), .val (.int (Int32.ofNat n)), .val (.ref b172), .val (.int (Int32.ofNat (o + k)))] [(.int (own_F (own_D d0 d1 d2 d3) o k ((own_D d0 d1 d2 d3 (o + k)) &&& (255 : Int32)).toNatClampNeg)), (.int ((own_D d0 d1 d2 d3 (o + k)) &&& (255 : Int32))), (.ref b172)])) t → Steps p.tables e below (s₁.setTop (entryFrame m #[(.ref a0), (.int (Int32.ofNat o)), (.int (Int32.ofNat n))] 5)) t := fun t kt => pre180 _ (X174l.iaload hx (j := ((own_D d0 d1 d2 d3 (o + k)) &&& (255 : Int32))) (v := (.int (own_F (own_D d0 d1 d2 d3) o k ((own_D d0 d1 d2 d3 (o + k)) &&& (255 : Int32)).toNatClampNeg))) Ar_b172_181.1 (State.isArrayOf_alike hZ.alike Ar_b172_181.2.1) Ar_b172_181.2.2 hin181 hat181 (g := (mkF m 27 #[.val (.ref a0), .val (.int (Int32.ofNat o)), .val (.int (Int32.ofNat n)), .val (.ref b172), .val (.int (Int32.ofNat (o + k)))] [(.int ((own_D d0 d1 d2 d3 (o + k)) &&& (255 : Int32))), (.ref b172), (.int ((own_D d0 d1 d2 d3 (o + k)) &&& (255 : Int32))), (.ref b172)])) rfl rfl (hb hby d1_27) t kt)
      have pre183 : ∀ t, Steps p.tables e below (T174l.setTop (mkF m 30 #[.val (.ref a0), .val (.int (Int32.ofNat o)), .val (.int (Int32.ofNat n)), .val (.ref b172), .val (.int (Int32.ofNat (o + k)))] [(.int ((own_F (own_D d0 d1 d2 d3) o k ((own_D d0 d1 d2 d3 (o + k)) &&& (255 : Int32)).toNatClampNeg) + (1 : Int32))), (.int ((own_D d0 d1 d2 d3 (o + k)) &&& (255 : Int32))), (.ref b172)])) t → Steps p.tables e below (s₁.setTop (entryFrame m #[(.ref a0), (.int (Int32.ofNat o)), (.int (Int32.ofNat n))] 5)) t := fun t kt => by
        refine pre182 _ ?_
        show Steps p.tables e below (T174l.setTop (mkF m 28 #[.val (.ref a0), .val (.int (Int32.ofNat o)), .val (.int (Int32.ofNat n)), .val (.ref b172), .val (.int (Int32.ofNat (o + k)))] [(.int (own_F (own_D d0 d1 d2 d3) o k ((own_D d0 d1 d2 d3 (o + k)) &&& (255 : Int32)).toNatClampNeg)), (.int ((own_D d0 d1 d2 d3 (o + k)) &&& (255 : Int32))), (.ref b172)])) _
        refine XS.iconst X174l.here hx rfl (hb hby d1_28) ?_
        show Steps p.tables e below (T174l.setTop (mkF m 29 #[.val (.ref a0), .val (.int (Int32.ofNat o)), .val (.int (Int32.ofNat n)), .val (.ref b172), .val (.int (Int32.ofNat (o + k)))] [(.int (1 : Int32)), (.int (own_F (own_D d0 d1 d2 d3) o k ((own_D d0 d1 d2 d3 (o + k)) &&& (255 : Int32)).toNatClampNeg)), (.int ((own_D d0 d1 d2 d3 (o + k)) &&& (255 : Int32))), (.ref b172)])) _
        refine XS.iadd X174l.here hx rfl (hb hby d1_29) rfl ?_
        show Steps p.tables e below (T174l.setTop (mkF m 30 #[.val (.ref a0), .val (.int (Int32.ofNat o)), .val (.int (Int32.ofNat n)), .val (.ref b172), .val (.int (Int32.ofNat (o + k)))] [(.int ((own_F (own_D d0 d1 d2 d3) o k ((own_D d0 d1 d2 d3 (o + k)) &&& (255 : Int32)).toNatClampNeg) + (1 : Int32))), (.int ((own_D d0 d1 d2 d3 (o + k)) &&& (255 : Int32))), (.ref b172)])) _
        exact kt
      have Vo_b172_184 := I174_1l
      obtain ⟨cl_b172_184, Ar_b172_184, q_b172_184, S_b172_184, M_b172_184, H_b172_184, G_b172_184⟩ := Vo_b172_184
      have hin184 : ¬ (((own_D d0 d1 d2 d3 (o + k)) &&& (255 : Int32)) < 0 ∨ cl_b172_184.slots.size ≤ (((own_D d0 d1 d2 d3 (o + k)) &&& (255 : Int32))).toNatClampNeg) := inb_of S_b172_184 ⟨hbd.1, hbd.2.1⟩
      obtain ⟨T184, h184, X184, e184, W184, st184⟩ := stI X174l hx hZ rfl Ar_b172_184 (j := ((own_D d0 d1 d2 d3 (o + k)) &&& (255 : Int32))) hin184 (g := (mkF m 30 #[.val (.ref a0), .val (.int (Int32.ofNat o)), .val (.int (Int32.ofNat n)), .val (.ref b172), .val (.int (Int32.ofNat (o + k)))] [(.int ((own_F (own_D d0 d1 d2 d3) o k ((own_D d0 d1 d2 d3 (o + k)) &&& (255 : Int32)).toNatClampNeg) + (1 : Int32))), (.int ((own_D d0 d1 d2 d3 (o + k)) &&& (255 : Int32))), (.ref b172)])) rfl rfl (hb hby d1_30)
      have V184_b172 := Arv.set Ar_b172_184 q_b172_184 S_b172_184 M_b172_184 H_b172_184 G_b172_184 rfl W184 ((own_D d0 d1 d2 d3 (o + k)) &&& (255 : Int32)).toNatClampNeg rfl (by rw [own_L_len]; exact hbd.2.2)
      have F184_0 := I174_0l.other W184 ne_a0_b172
      have F184_1 := V184_b172
      have Zs184 : n0 ≤ h184.size := Nat.le_trans Zs174l (Keep.of_wr W184).1
      have K184 := K174l.wr W184 (Or.inr sz_b172)
      have N184 := Fr.snoc X184 N174l g_b172
      have pre184 : ∀ t, Steps p.tables e below (T184.setTop (mkF m 31 #[.val (.ref a0), .val (.int (Int32.ofNat o)), .val (.int (Int32.ofNat n)), .val (.ref b172), .val (.int (Int32.ofNat (o + k)))] [])) t → Steps p.tables e below (s₁.setTop (entryFrame m #[(.ref a0), (.int (Int32.ofNat o)), (.int (Int32.ofNat n))] 5)) t := fun t kt => pre183 _ (st184 t kt)
      have pre185 : ∀ t, Steps p.tables e below (T184.setTop (mkF m 34 #[.val (.ref a0), .val (.int (Int32.ofNat o)), .val (.int (Int32.ofNat n)), .val (.ref b172), .val (.int ((Int32.ofNat (o + k)) + (1 : Int32)))] [])) t → Steps p.tables e below (s₁.setTop (entryFrame m #[(.ref a0), (.int (Int32.ofNat o)), (.int (Int32.ofNat n))] 5)) t := fun t kt => by
        refine pre184 _ ?_
        show Steps p.tables e below (T184.setTop (mkF m 31 #[.val (.ref a0), .val (.int (Int32.ofNat o)), .val (.int (Int32.ofNat n)), .val (.ref b172), .val (.int (Int32.ofNat (o + k)))] [])) _
        refine XS.iinc X184.here hx rfl (hb hby d1_31) rfl (l' := #[.val (.ref a0), .val (.int (Int32.ofNat o)), .val (.int (Int32.ofNat n)), .val (.ref b172), .val (.int ((Int32.ofNat (o + k)) + (1 : Int32)))]) rfl ?_
        show Steps p.tables e below (T184.setTop (mkF m 34 #[.val (.ref a0), .val (.int (Int32.ofNat o)), .val (.int (Int32.ofNat n)), .val (.ref b172), .val (.int ((Int32.ofNat (o + k)) + (1 : Int32)))] [])) _
        exact kt
      have pre186 : ∀ t, Steps p.tables e below (T184.setTop (mkF m 9 #[.val (.ref a0), .val (.int (Int32.ofNat o)), .val (.int (Int32.ofNat n)), .val (.ref b172), .val (.int ((Int32.ofNat (o + k)) + (1 : Int32)))] [])) t → Steps p.tables e below (s₁.setTop (entryFrame m #[(.ref a0), (.int (Int32.ofNat o)), (.int (Int32.ofNat n))] 5)) t := fun t kt => by
        refine pre185 _ ?_
        show Steps p.tables e below (T184.setTop (mkF m 34 #[.val (.ref a0), .val (.int (Int32.ofNat o)), .val (.int (Int32.ofNat n)), .val (.ref b172), .val (.int ((Int32.ofNat (o + k)) + (1 : Int32)))] [])) _
        refine XS.goto X184.here hx rfl (pc0 := 34) (pc' := 9) rfl (hb hby d1_34) (by decide) (by decide) ?_
        show Steps p.tables e below (T184.setTop (mkF m 9 #[.val (.ref a0), .val (.int (Int32.ofNat o)), .val (.int (Int32.ofNat n)), .val (.ref b172), .val (.int ((Int32.ofNat (o + k)) + (1 : Int32)))] [])) _
        exact kt
      have pre187 : ∀ t, Steps p.tables e below (T184.setTop (mkF m 9 #[.val (.ref a0), .val (.int (Int32.ofNat o)), .val (.int (Int32.ofNat n)), .val (.ref b172), .val (.int (Int32.ofNat (o + (k + 1))))] [])) t → Steps p.tables e below (s₁.setTop (entryFrame m #[(.ref a0), (.int (Int32.ofNat o)), (.int (Int32.ofNat n))] 5)) t := by
        have q := pre186
        rw [own_succ o k] at q
        exact q
      have Vn : Arv Z h184 b172 k172 .int (256 : Int32) (own_L (own_F (own_D d0 d1 d2 d3) o (k + 1))) (.int (0 : Int32)) := by
        have q := F184_1
        rw [own_L_set (own_D d0 d1 d2 d3) o k _ rfl] at q
        exact q
      exact ⟨T184, _, X184, N184, by rw [e184]; exact K184, by rw [e184]; exact F184_0, by rw [e184]; exact Vn, pre187⟩
  obtain ⟨T174o, L174o, X174o, N174o, K174o, I174_0o, I174_1o, pre174o⟩ := loop174 n (Nat.le_refl _)
  have Zs174o : n0 ≤ T174o.heap.size := Nat.le_trans Z0 K174o.1
  have pre188 : ∀ t, Steps p.tables e below (T174o.setTop (mkF m 14 #[.val (.ref a0), .val (.int (Int32.ofNat o)), .val (.int (Int32.ofNat n)), .val (.ref b172), .val (.int (Int32.ofNat (o + n)))] [(.int ((Int32.ofNat o) + (Int32.ofNat n))), (.int (Int32.ofNat (o + n)))])) t → Steps p.tables e below (s₁.setTop (entryFrame m #[(.ref a0), (.int (Int32.ofNat o)), (.int (Int32.ofNat n))] 5)) t := fun t kt => by
    refine pre174o _ ?_
    show Steps p.tables e below (T174o.setTop (mkF m 9 #[.val (.ref a0), .val (.int (Int32.ofNat o)), .val (.int (Int32.ofNat n)), .val (.ref b172), .val (.int (Int32.ofNat (o + n)))] [])) _
    refine XS.iload X174o.here hx rfl (hb hby d1_9) rfl ?_
    show Steps p.tables e below (T174o.setTop (mkF m 11 #[.val (.ref a0), .val (.int (Int32.ofNat o)), .val (.int (Int32.ofNat n)), .val (.ref b172), .val (.int (Int32.ofNat (o + n)))] [(.int (Int32.ofNat (o + n)))])) _
    refine XS.iloadN X174o.here hx rfl (hb hby d1_11) rfl ?_
    show Steps p.tables e below (T174o.setTop (mkF m 12 #[.val (.ref a0), .val (.int (Int32.ofNat o)), .val (.int (Int32.ofNat n)), .val (.ref b172), .val (.int (Int32.ofNat (o + n)))] [(.int (Int32.ofNat o)), (.int (Int32.ofNat (o + n)))])) _
    refine XS.iloadN X174o.here hx rfl (hb hby d1_12) rfl ?_
    show Steps p.tables e below (T174o.setTop (mkF m 13 #[.val (.ref a0), .val (.int (Int32.ofNat o)), .val (.int (Int32.ofNat n)), .val (.ref b172), .val (.int (Int32.ofNat (o + n)))] [(.int (Int32.ofNat n)), (.int (Int32.ofNat o)), (.int (Int32.ofNat (o + n)))])) _
    refine XS.iadd X174o.here hx rfl (hb hby d1_13) rfl ?_
    show Steps p.tables e below (T174o.setTop (mkF m 14 #[.val (.ref a0), .val (.int (Int32.ofNat o)), .val (.int (Int32.ofNat n)), .val (.ref b172), .val (.int (Int32.ofNat (o + n)))] [(.int ((Int32.ofNat o) + (Int32.ofNat n))), (.int (Int32.ofNat (o + n)))])) _
    exact kt
  have pre189 : ∀ t, Steps p.tables e below (T174o.setTop (mkF m 37 #[.val (.ref a0), .val (.int (Int32.ofNat o)), .val (.int (Int32.ofNat n)), .val (.ref b172), .val (.int (Int32.ofNat (o + n)))] [])) t → Steps p.tables e below (s₁.setTop (entryFrame m #[(.ref a0), (.int (Int32.ofNat o)), (.int (Int32.ofNat n))] 5)) t := fun t kt => by
    refine pre188 _ ?_
    show Steps p.tables e below (T174o.setTop (mkF m 14 #[.val (.ref a0), .val (.int (Int32.ofNat o)), .val (.int (Int32.ofNat n)), .val (.ref b172), .val (.int (Int32.ofNat (o + n)))] [(.int ((Int32.ofNat o) + (Int32.ofNat n))), (.int (Int32.ofNat (o + n)))])) _
    refine XS.icmpYes X174o.here hx rfl (pc0 := 14) (pc' := 37) rfl (hb hby d1_14) rfl (flt (own_end hon)).2.1 (by decide) (by decide) ?_
    show Steps p.tables e below (T174o.setTop (mkF m 37 #[.val (.ref a0), .val (.int (Int32.ofNat o)), .val (.int (Int32.ofNat n)), .val (.ref b172), .val (.int (Int32.ofNat (o + n)))] [])) _
    exact kt
  have pre190 : ∀ t, Steps p.tables e below (T174o.setTop (mkF m 38 #[.val (.ref a0), .val (.int (Int32.ofNat o)), .val (.int (Int32.ofNat n)), .val (.ref b172), .val (.int (Int32.ofNat (o + n)))] [(.ref b172)])) t → Steps p.tables e below (s₁.setTop (entryFrame m #[(.ref a0), (.int (Int32.ofNat o)), (.int (Int32.ofNat n))] 5)) t := fun t kt => by
    refine pre189 _ ?_
    show Steps p.tables e below (T174o.setTop (mkF m 37 #[.val (.ref a0), .val (.int (Int32.ofNat o)), .val (.int (Int32.ofNat n)), .val (.ref b172), .val (.int (Int32.ofNat (o + n)))] [])) _
    refine XS.aloadN X174o.here hx rfl (hb hby d1_37) rfl rfl ?_
    show Steps p.tables e below (T174o.setTop (mkF m 38 #[.val (.ref a0), .val (.int (Int32.ofNat o)), .val (.int (Int32.ofNat n)), .val (.ref b172), .val (.int (Int32.ofNat (o + n)))] [(.ref b172)])) _
    exact kt
  obtain ⟨fs, hr, hrun, hended, hW, hsame⟩ := X174o.leave (v := some (.ref b172)) (fun h => by rw [Bd.returns] at h; cases h)
  refine ⟨_, _, pre190 _ ?_, hrun, hended, _, _, rfl, ?_, ⟨_, rfl⟩, hW, hsame.mono (by decide) (by decide)⟩
  · show Steps p.tables e below (T174o.setTop (mkF m 38 #[.val (.ref a0), .val (.int (Int32.ofNat o)), .val (.int (Int32.ofNat n)), .val (.ref b172), .val (.int (Int32.ofNat (o + n)))] [(.ref b172)])) _
    jvm_step X174o.here [X174o.here.top, hx, (hb hby d1_38), X174o.method', Bd.returns, Value.isRef, FieldType.isReference]
    first | (intro acts; rw [hr _ acts rfl rfl rfl]) | rw [hr _ _ rfl rfl rfl]
    exact Steps.refl _
  · show Q1 Z o n d0 d1 d2 d3 h0 n0 _ T174o.heap _
    exact ⟨b172, k172, rfl, N174o, K174o, sz_b172, I174_1o⟩
theorem own_off (c : Int32) (q : Int) (h1 : 1 ≤ q) (h5 : q ≤ 5) (d : Int32) (hd : d.toInt = q) : ∃ n : Nat, (n : Int) < q ∧ ((c &&& (2147483647 : Int32)) - ((c &&& (2147483647 : Int32)) / d) * d) = Int32.ofNat n := by
  have e : (c &&& (2147483647 : Int32)).toInt = c.toInt % 2 ^ 31 := Jvm.Kit.i32_mask c 2147483647 (k := 31) (by decide) (by decide)
  generalize (c &&& (2147483647 : Int32)) = s at e ⊢
  have h0 : 0 ≤ s.toInt := by omega
  have b := s.toInt_lt
  have dv : (s / d).toInt = s.toInt / q := by rw [Jvm.Kit.i32_div (by omega), hd, Int.tdiv_eq_ediv_of_nonneg h0]
  have m1 : s.toInt / q * q ≤ s.toInt := Int.ediv_mul_le _ (by omega)
  have m2 : 0 ≤ s.toInt / q := Int.ediv_nonneg h0 (by omega)
  have m3 : 0 ≤ s.toInt / q * q := Int.mul_nonneg m2 (by omega)
  have mm : ((s / d) * d).toInt = s.toInt / q * q := by rw [Jvm.Kit.i32_mul (by rw [dv, hd]; omega) (by rw [dv, hd]; omega), dv, hd]
  have r1 := Int.emod_nonneg s.toInt (b := q) (by omega)
  have r2 := Int.emod_lt_of_pos s.toInt (b := q) (by omega)
  have r3 : s.toInt - s.toInt / q * q = s.toInt % q := by have := Int.emod_add_mul_ediv s.toInt q; rw [Int.mul_comm] at this; omega
  refine ⟨(s.toInt % q).toNat, by omega, Int32.toInt_inj.mp ?_⟩
  rw [Jvm.Kit.i32_sub (by omega) (by omega), mm, r3, Int32.toInt_ofNat_of_lt (by omega)]
  omega
theorem own_eqb (x v : Int32) (hv : 0 ≤ v.toInt) : (x &&& (255 : Int32)) = v ↔ (x &&& (255 : Int32)).toNatClampNeg = v.toNatClampNeg := by
  have e : (x &&& (255 : Int32)).toInt = x.toInt % 2 ^ 8 := Jvm.Kit.i32_mask x 255 (k := 8) (by decide) (by decide)
  rw [← Int32.toInt_inj]
  show _ ↔ (x &&& (255 : Int32)).toInt.toNat = v.toInt.toNat
  omega
theorem own_law (o n : Nat) (h : o + n ≤ 4) (v d0 d1 d2 d3 : Int32) (hv : 0 ≤ v.toInt) : own_F (own_D d0 d1 d2 d3) o n v.toNatClampNeg = f2 (Int32.ofNat o) (Int32.ofNat n) v d0 d1 d2 d3 := by
  have e0 := own_eqb d0 v hv
  have e1 := own_eqb d1 v hv
  have e2 := own_eqb d2 v hv
  have e3 := own_eqb d3 v hv
  unfold f2 f3_0 f3_1 f3_2 f3_3
  have lo : ∀ i : Nat, i < 4 → (Int32.ofNat i < Int32.ofNat o ↔ i < o) := fun i hi => by
    rw [Int32.lt_iff_toInt_lt, own_nat (by omega), own_nat (by omega)]; omega
  have hi : ∀ i : Nat, i < 4 → (Int32.ofNat i < (Int32.ofNat o + Int32.ofNat n) ↔ i < o + n) := fun i hi => by
    rw [Int32.lt_iff_toInt_lt, Jvm.Kit.i32_add (by rw [own_nat (by omega), own_nat (by omega)]; omega) (by rw [own_nat (by omega), own_nat (by omega)]; omega), own_nat (by omega), own_nat (by omega), own_nat (by omega)]; omega
  have a0 : (0 : Int32) < Int32.ofNat o ↔ 0 < o := lo 0 (by omega)
  have a1 : (1 : Int32) < Int32.ofNat o ↔ 1 < o := lo 1 (by omega)
  have a2 : (2 : Int32) < Int32.ofNat o ↔ 2 < o := lo 2 (by omega)
  have a3 : (3 : Int32) < Int32.ofNat o ↔ 3 < o := lo 3 (by omega)
  have b0 : (0 : Int32) < (Int32.ofNat o + Int32.ofNat n) ↔ 0 < o + n := hi 0 (by omega)
  have b1 : (1 : Int32) < (Int32.ofNat o + Int32.ofNat n) ↔ 1 < o + n := hi 1 (by omega)
  have b2 : (2 : Int32) < (Int32.ofNat o + Int32.ofNat n) ↔ 2 < o + n := hi 2 (by omega)
  have b3 : (3 : Int32) < (Int32.ofNat o + Int32.ofNat n) ↔ 3 < o + n := hi 3 (by omega)
  simp only [e0, e1, e2, e3, a0, a1, a2, a3, b0, b1, b2, b3]
  clear e0 e1 e2 e3 a0 a1 a2 a3 b0 b1 b2 b3 lo hi
  have ho : o = 0 ∨ o = 1 ∨ o = 2 ∨ o = 3 ∨ o = 4 := by omega
  have hn : n = 0 ∨ n = 1 ∨ n = 2 ∨ n = 3 ∨ n = 4 := by omega
  have g0 : own_D d0 d1 d2 d3 0 = d0 := rfl
  have g1 : own_D d0 d1 d2 d3 1 = d1 := rfl
  have g2 : own_D d0 d1 d2 d3 2 = d2 := rfl
  have g3 : own_D d0 d1 d2 d3 3 = d3 := rfl
  rcases ho with rfl | rfl | rfl | rfl | rfl <;> rcases hn with rfl | rfl | rfl | rfl | rfl <;> first | (exfalso; omega) | skip
  all_goals
    simp only [own_F, Nat.zero_add, Nat.add_zero, Nat.reduceAdd, g0, g1, g2, g3]
    by_cases q0 : (d0 &&& (255 : Int32)).toNatClampNeg = v.toNatClampNeg <;> by_cases q1 : (d1 &&& (255 : Int32)).toNatClampNeg = v.toNatClampNeg <;> by_cases q2 : (d2 &&& (255 : Int32)).toNatClampNeg = v.toNatClampNeg <;> by_cases q3 : (d3 &&& (255 : Int32)).toNatClampNeg = v.toNatClampNeg <;> simp [q0, q1, q2, q3]

theorem ef_0 (m : MethodId) (x0 : Int32) (x1 : Int32) (x2 : Int32) (x3 : Int32) : entryFrame m #[(.int x0), (.int x1), (.int x2), (.int x3)] maxLocals = mkF m 0 #[.val (.int x0), .val (.int x1), .val (.int x2), .val (.int x3), .unset, .unset, .unset, .unset, .unset, .unset, .unset, .unset, .unset] [] := by first | (simp [entryFrame, mkF, argsToLocals, Value.category, maxLocals]; done) | rfl
def Q0 (bv : Int32) (fv : Int32) (lv : Int32) (pv : Int32) (h0 : Heap) (n0 : Nat) (v : Option Value) (h : Heap) (L : List Loc) : Prop := v = some (.int (1 : Int32)) ∧ Fr n0 L
set_option maxRecDepth 65536 in
set_option maxHeartbeats 40000000 in
theorem rm0 (l : Launch) (Z : State) (aZ : Array Value) (hw : ∀ d ∈ tables_1, d.before aZ Z = true) (ws : List Jvm.Cond) (bv : Int32) (fv : Int32) (lv : Int32) (pv : Int32)  (h0 : Heap) (n0 : Nat) (Z0 : n0 ≤ h0.size)  :
    MetFree l x (head1 (Jvm.Cond.code x code maxLocals ret :: ws) room_1) (fun a U => a = #[(.int bv), (.int fv), (.int lv), (.int pv)] ∧ Z.Warmed39 U.vm ∧ U.heap = h0) (fun _ _ _ _ _ => True) (fun _ U oc U' => ∃ v L, oc = .returned v ∧ Q0 bv fv lv pv h0 n0 v U'.heap L ∧ FrameEnd U oc U' L room_1.cells room_1.slots) := by
  refine MetFree.of_bodySF (plainFor_of_name pn_3) hisR ?_
  intro p e s m args below meth c s₁ Bd hml0 hP hK
  obtain ⟨rfl, hZ, hh⟩ := hP
  have hx := Bd.exec
  have hby := Bd.bytes
  have hml : c.maxLocals = 13 := hml0
  have hown : s.vm.findClass "com/example/leafweight/leafweight/BlockCodeCountPinLaw" = some m.cls := findClass_of_methodNamed Bd.named
  have hnm := (name_of_methodNamed Bd.named Bd.method).1
  have X0 : Stand p l e room_1 s m #[(.int bv), (.int fv), (.int lv), (.int pv)] below meth c s₁ [] 0 0 := Stand.of_body Bd
  have e0 : s₁.heap = h0 := by rw [← hh, Bd.state]; rfl
  have N0 := Fr.nil n0
  have pre0 : ∀ t, Steps p.tables e below (s₁.setTop (mkF m 0 #[.val (.int bv), .val (.int fv), .val (.int lv), .val (.int pv), .unset, .unset, .unset, .unset, .unset, .unset, .unset, .unset, .unset] [])) t → Steps p.tables e below (s₁.setTop (entryFrame m #[(.int bv), (.int fv), (.int lv), (.int pv)] maxLocals)) t := fun t kt => castTop (ef_0 m bv fv lv pv) kt
  have pre191 : ∀ t, Steps p.tables e below (s₁.setTop (mkF m 1 #[.val (.int bv), .val (.int fv), .val (.int lv), .val (.int pv), .unset, .unset, .unset, .unset, .unset, .unset, .unset, .unset, .unset] [(.int (4 : Int32))])) t → Steps p.tables e below (s₁.setTop (entryFrame m #[(.int bv), (.int fv), (.int lv), (.int pv)] maxLocals)) t := fun t kt => by
    refine pre0 _ ?_
    show Steps p.tables e below (s₁.setTop (mkF m 0 #[.val (.int bv), .val (.int fv), .val (.int lv), .val (.int pv), .unset, .unset, .unset, .unset, .unset, .unset, .unset, .unset, .unset] [])) _
    refine XS.iconst X0.here hx rfl (hb hby at_0) ?_
    show Steps p.tables e below (s₁.setTop (mkF m 1 #[.val (.int bv), .val (.int fv), .val (.int lv), .val (.int pv), .unset, .unset, .unset, .unset, .unset, .unset, .unset, .unset, .unset] [(.int (4 : Int32))])) _
    exact kt
  obtain ⟨T192, h192, k192, X192, e192, E192, A192, st192⟩ := newP X0 hx hZ (hw _ (List.mem_of_getElem? (i := 0) rfl)) e0 (g := (mkF m 1 #[.val (.int bv), .val (.int fv), .val (.int lv), .val (.int pv), .unset, .unset, .unset, .unset, .unset, .unset, .unset, .unset, .unset] [(.int (4 : Int32))])) rfl (hb hby at_1) rfl (by decide) (cap := 4) (by decide) (by decide) (by decide) (by decide)
  obtain ⟨b192, g192⟩ : ∃ z, z = h0.size := ⟨_, rfl⟩
  have g_b192 : n0 ≤ b192 := Nat.le_trans Z0 (Nat.le_of_eq g192.symm)
  have sz_b192 : h0.size ≤ b192 := Nat.le_of_eq g192.symm
  rw [← g192] at A192 st192
  have Zs192 : n0 ≤ h192.size := Nat.le_trans Z0 E192.1
  have K0 := Keep.refl h0 []
  have K192 := K0.ext E192
  have V_b192 : Arv Z h192 b192 k192 .byte (4 : Int32) [(.int (0 : Int32)), (.int (0 : Int32)), (.int (0 : Int32)), (.int (0 : Int32))] (.int (0 : Int32)) := (Arv.new A192 (by decide)).pad (pad_rep [] (.int (0 : Int32)) 4)
  have pre192 : ∀ t, Steps p.tables e below (T192.setTop (mkF m 3 #[.val (.int bv), .val (.int fv), .val (.int lv), .val (.int pv), .unset, .unset, .unset, .unset, .unset, .unset, .unset, .unset, .unset] [(.ref b192)])) t → Steps p.tables e below (s₁.setTop (entryFrame m #[(.int bv), (.int fv), (.int lv), (.int pv)] maxLocals)) t := fun t kt => pre191 _ (st192 t kt)
  have pre193 : ∀ t, Steps p.tables e below (T192.setTop (mkF m 10 #[.val (.int bv), .val (.int fv), .val (.int lv), .val (.int pv), .val (.ref b192), .unset, .unset, .unset, .unset, .unset, .unset, .unset, .unset] [(.int (bv.toInt8.toInt32)), (.int (0 : Int32)), (.ref b192)])) t → Steps p.tables e below (s₁.setTop (entryFrame m #[(.int bv), (.int fv), (.int lv), (.int pv)] maxLocals)) t := fun t kt => by
    refine pre192 _ ?_
    show Steps p.tables e below (T192.setTop (mkF m 3 #[.val (.int bv), .val (.int fv), .val (.int lv), .val (.int pv), .unset, .unset, .unset, .unset, .unset, .unset, .unset, .unset, .unset] [(.ref b192)])) _
    refine XS.astore X192.here hx rfl (hb hby at_3) rfl rfl (l' := #[.val (.int bv), .val (.int fv), .val (.int lv), .val (.int pv), .val (.ref b192), .unset, .unset, .unset, .unset, .unset, .unset, .unset, .unset]) rfl ?_
    show Steps p.tables e below (T192.setTop (mkF m 5 #[.val (.int bv), .val (.int fv), .val (.int lv), .val (.int pv), .val (.ref b192), .unset, .unset, .unset, .unset, .unset, .unset, .unset, .unset] [])) _
    refine XS.aload X192.here hx rfl (hb hby at_5) rfl rfl ?_
    show Steps p.tables e below (T192.setTop (mkF m 7 #[.val (.int bv), .val (.int fv), .val (.int lv), .val (.int pv), .val (.ref b192), .unset, .unset, .unset, .unset, .unset, .unset, .unset, .unset] [(.ref b192)])) _
    refine XS.iconst X192.here hx rfl (hb hby at_7) ?_
    show Steps p.tables e below (T192.setTop (mkF m 8 #[.val (.int bv), .val (.int fv), .val (.int lv), .val (.int pv), .val (.ref b192), .unset, .unset, .unset, .unset, .unset, .unset, .unset, .unset] [(.int (0 : Int32)), (.ref b192)])) _
    refine XS.iloadN X192.here hx rfl (hb hby at_8) rfl ?_
    show Steps p.tables e below (T192.setTop (mkF m 9 #[.val (.int bv), .val (.int fv), .val (.int lv), .val (.int pv), .val (.ref b192), .unset, .unset, .unset, .unset, .unset, .unset, .unset, .unset] [(.int bv), (.int (0 : Int32)), (.ref b192)])) _
    refine XS.i2b X192.here hx rfl (hb hby at_9) rfl ?_
    show Steps p.tables e below (T192.setTop (mkF m 10 #[.val (.int bv), .val (.int fv), .val (.int lv), .val (.int pv), .val (.ref b192), .unset, .unset, .unset, .unset, .unset, .unset, .unset, .unset] [(.int (bv.toInt8.toInt32)), (.int (0 : Int32)), (.ref b192)])) _
    exact kt
  have Vo_b192_194 := V_b192
  obtain ⟨cl_b192_194, Ar_b192_194, q_b192_194, S_b192_194, M_b192_194, H_b192_194, G_b192_194⟩ := Vo_b192_194
  have hin194 : ¬ ((0 : Int32) < 0 ∨ cl_b192_194.slots.size ≤ ((0 : Int32)).toNatClampNeg) := inb_of S_b192_194 ⟨by decide, by decide⟩
  obtain ⟨T194, h194, X194, e194, W194, st194⟩ := stB X192 hx hZ e192 Ar_b192_194 (j := (0 : Int32)) hin194 (g := (mkF m 10 #[.val (.int bv), .val (.int fv), .val (.int lv), .val (.int pv), .val (.ref b192), .unset, .unset, .unset, .unset, .unset, .unset, .unset, .unset] [(.int (bv.toInt8.toInt32)), (.int (0 : Int32)), (.ref b192)])) rfl rfl (hb hby at_10)
  have V194_b192 := Arv.set Ar_b192_194 q_b192_194 S_b192_194 M_b192_194 H_b192_194 G_b192_194 (fits_nar_byte _) W194 0 rfl (Nat.le_of_ble_eq_true rfl)
  have F194_0 := V194_b192
  have Zs194 : n0 ≤ h194.size := Nat.le_trans Zs192 (Keep.of_wr W194).1
  have K194 := K192.wr W194 (Or.inr sz_b192)
  have N194 := Fr.snoc X194 N0 g_b192
  have pre194 : ∀ t, Steps p.tables e below (T194.setTop (mkF m 11 #[.val (.int bv), .val (.int fv), .val (.int lv), .val (.int pv), .val (.ref b192), .unset, .unset, .unset, .unset, .unset, .unset, .unset, .unset] [])) t → Steps p.tables e below (s₁.setTop (entryFrame m #[(.int bv), (.int fv), (.int lv), (.int pv)] maxLocals)) t := fun t kt => pre193 _ (st194 t kt)
  have pre195 : ∀ t, Steps p.tables e below (T194.setTop (mkF m 19 #[.val (.int bv), .val (.int fv), .val (.int lv), .val (.int pv), .val (.ref b192), .unset, .unset, .unset, .unset, .unset, .unset, .unset, .unset] [(.int (((bv.toUInt32 >>> ((8 : Int32) &&& 31).toUInt32).toInt32).toInt8.toInt32)), (.int (1 : Int32)), (.ref b192)])) t → Steps p.tables e below (s₁.setTop (entryFrame m #[(.int bv), (.int fv), (.int lv), (.int pv)] maxLocals)) t := fun t kt => by
    refine pre194 _ ?_
    show Steps p.tables e below (T194.setTop (mkF m 11 #[.val (.int bv), .val (.int fv), .val (.int lv), .val (.int pv), .val (.ref b192), .unset, .unset, .unset, .unset, .unset, .unset, .unset, .unset] [])) _
    refine XS.aload X194.here hx rfl (hb hby at_11) rfl rfl ?_
    show Steps p.tables e below (T194.setTop (mkF m 13 #[.val (.int bv), .val (.int fv), .val (.int lv), .val (.int pv), .val (.ref b192), .unset, .unset, .unset, .unset, .unset, .unset, .unset, .unset] [(.ref b192)])) _
    refine XS.iconst X194.here hx rfl (hb hby at_13) ?_
    show Steps p.tables e below (T194.setTop (mkF m 14 #[.val (.int bv), .val (.int fv), .val (.int lv), .val (.int pv), .val (.ref b192), .unset, .unset, .unset, .unset, .unset, .unset, .unset, .unset] [(.int (1 : Int32)), (.ref b192)])) _
    refine XS.iloadN X194.here hx rfl (hb hby at_14) rfl ?_
    show Steps p.tables e below (T194.setTop (mkF m 15 #[.val (.int bv), .val (.int fv), .val (.int lv), .val (.int pv), .val (.ref b192), .unset, .unset, .unset, .unset, .unset, .unset, .unset, .unset] [(.int bv), (.int (1 : Int32)), (.ref b192)])) _
    refine XS.bipush X194.here hx rfl (hb hby at_15) ?_
    show Steps p.tables e below (T194.setTop (mkF m 17 #[.val (.int bv), .val (.int fv), .val (.int lv), .val (.int pv), .val (.ref b192), .unset, .unset, .unset, .unset, .unset, .unset, .unset, .unset] [(.int (8 : Int32)), (.int bv), (.int (1 : Int32)), (.ref b192)])) _
    refine XS.iushr X194.here hx rfl (hb hby at_17) rfl ?_
    show Steps p.tables e below (T194.setTop (mkF m 18 #[.val (.int bv), .val (.int fv), .val (.int lv), .val (.int pv), .val (.ref b192), .unset, .unset, .unset, .unset, .unset, .unset, .unset, .unset] [(.int ((bv.toUInt32 >>> ((8 : Int32) &&& 31).toUInt32).toInt32)), (.int (1 : Int32)), (.ref b192)])) _
    refine XS.i2b X194.here hx rfl (hb hby at_18) rfl ?_
    show Steps p.tables e below (T194.setTop (mkF m 19 #[.val (.int bv), .val (.int fv), .val (.int lv), .val (.int pv), .val (.ref b192), .unset, .unset, .unset, .unset, .unset, .unset, .unset, .unset] [(.int (((bv.toUInt32 >>> ((8 : Int32) &&& 31).toUInt32).toInt32).toInt8.toInt32)), (.int (1 : Int32)), (.ref b192)])) _
    exact kt
  have Vo_b192_196 := F194_0
  obtain ⟨cl_b192_196, Ar_b192_196, q_b192_196, S_b192_196, M_b192_196, H_b192_196, G_b192_196⟩ := Vo_b192_196
  have hin196 : ¬ ((1 : Int32) < 0 ∨ cl_b192_196.slots.size ≤ ((1 : Int32)).toNatClampNeg) := inb_of S_b192_196 ⟨by decide, by decide⟩
  obtain ⟨T196, h196, X196, e196, W196, st196⟩ := stB X194 hx hZ e194 Ar_b192_196 (j := (1 : Int32)) hin196 (g := (mkF m 19 #[.val (.int bv), .val (.int fv), .val (.int lv), .val (.int pv), .val (.ref b192), .unset, .unset, .unset, .unset, .unset, .unset, .unset, .unset] [(.int (((bv.toUInt32 >>> ((8 : Int32) &&& 31).toUInt32).toInt32).toInt8.toInt32)), (.int (1 : Int32)), (.ref b192)])) rfl rfl (hb hby at_19)
  have V196_b192 := Arv.set Ar_b192_196 q_b192_196 S_b192_196 M_b192_196 H_b192_196 G_b192_196 (fits_nar_byte _) W196 1 rfl (Nat.le_of_ble_eq_true rfl)
  have F196_0 := V196_b192
  have Zs196 : n0 ≤ h196.size := Nat.le_trans Zs194 (Keep.of_wr W196).1
  have K196 := K194.wr W196 (Or.inr sz_b192)
  have N196 := Fr.snoc X196 N194 g_b192
  have pre196 : ∀ t, Steps p.tables e below (T196.setTop (mkF m 20 #[.val (.int bv), .val (.int fv), .val (.int lv), .val (.int pv), .val (.ref b192), .unset, .unset, .unset, .unset, .unset, .unset, .unset, .unset] [])) t → Steps p.tables e below (s₁.setTop (entryFrame m #[(.int bv), (.int fv), (.int lv), (.int pv)] maxLocals)) t := fun t kt => pre195 _ (st196 t kt)
  have pre197 : ∀ t, Steps p.tables e below (T196.setTop (mkF m 28 #[.val (.int bv), .val (.int fv), .val (.int lv), .val (.int pv), .val (.ref b192), .unset, .unset, .unset, .unset, .unset, .unset, .unset, .unset] [(.int (((bv.toUInt32 >>> ((16 : Int32) &&& 31).toUInt32).toInt32).toInt8.toInt32)), (.int (2 : Int32)), (.ref b192)])) t → Steps p.tables e below (s₁.setTop (entryFrame m #[(.int bv), (.int fv), (.int lv), (.int pv)] maxLocals)) t := fun t kt => by
    refine pre196 _ ?_
    show Steps p.tables e below (T196.setTop (mkF m 20 #[.val (.int bv), .val (.int fv), .val (.int lv), .val (.int pv), .val (.ref b192), .unset, .unset, .unset, .unset, .unset, .unset, .unset, .unset] [])) _
    refine XS.aload X196.here hx rfl (hb hby at_20) rfl rfl ?_
    show Steps p.tables e below (T196.setTop (mkF m 22 #[.val (.int bv), .val (.int fv), .val (.int lv), .val (.int pv), .val (.ref b192), .unset, .unset, .unset, .unset, .unset, .unset, .unset, .unset] [(.ref b192)])) _
    refine XS.iconst X196.here hx rfl (hb hby at_22) ?_
    show Steps p.tables e below (T196.setTop (mkF m 23 #[.val (.int bv), .val (.int fv), .val (.int lv), .val (.int pv), .val (.ref b192), .unset, .unset, .unset, .unset, .unset, .unset, .unset, .unset] [(.int (2 : Int32)), (.ref b192)])) _
    refine XS.iloadN X196.here hx rfl (hb hby at_23) rfl ?_
    show Steps p.tables e below (T196.setTop (mkF m 24 #[.val (.int bv), .val (.int fv), .val (.int lv), .val (.int pv), .val (.ref b192), .unset, .unset, .unset, .unset, .unset, .unset, .unset, .unset] [(.int bv), (.int (2 : Int32)), (.ref b192)])) _
    refine XS.bipush X196.here hx rfl (hb hby at_24) ?_
    show Steps p.tables e below (T196.setTop (mkF m 26 #[.val (.int bv), .val (.int fv), .val (.int lv), .val (.int pv), .val (.ref b192), .unset, .unset, .unset, .unset, .unset, .unset, .unset, .unset] [(.int (16 : Int32)), (.int bv), (.int (2 : Int32)), (.ref b192)])) _
    refine XS.iushr X196.here hx rfl (hb hby at_26) rfl ?_
    show Steps p.tables e below (T196.setTop (mkF m 27 #[.val (.int bv), .val (.int fv), .val (.int lv), .val (.int pv), .val (.ref b192), .unset, .unset, .unset, .unset, .unset, .unset, .unset, .unset] [(.int ((bv.toUInt32 >>> ((16 : Int32) &&& 31).toUInt32).toInt32)), (.int (2 : Int32)), (.ref b192)])) _
    refine XS.i2b X196.here hx rfl (hb hby at_27) rfl ?_
    show Steps p.tables e below (T196.setTop (mkF m 28 #[.val (.int bv), .val (.int fv), .val (.int lv), .val (.int pv), .val (.ref b192), .unset, .unset, .unset, .unset, .unset, .unset, .unset, .unset] [(.int (((bv.toUInt32 >>> ((16 : Int32) &&& 31).toUInt32).toInt32).toInt8.toInt32)), (.int (2 : Int32)), (.ref b192)])) _
    exact kt
  have Vo_b192_198 := F196_0
  obtain ⟨cl_b192_198, Ar_b192_198, q_b192_198, S_b192_198, M_b192_198, H_b192_198, G_b192_198⟩ := Vo_b192_198
  have hin198 : ¬ ((2 : Int32) < 0 ∨ cl_b192_198.slots.size ≤ ((2 : Int32)).toNatClampNeg) := inb_of S_b192_198 ⟨by decide, by decide⟩
  obtain ⟨T198, h198, X198, e198, W198, st198⟩ := stB X196 hx hZ e196 Ar_b192_198 (j := (2 : Int32)) hin198 (g := (mkF m 28 #[.val (.int bv), .val (.int fv), .val (.int lv), .val (.int pv), .val (.ref b192), .unset, .unset, .unset, .unset, .unset, .unset, .unset, .unset] [(.int (((bv.toUInt32 >>> ((16 : Int32) &&& 31).toUInt32).toInt32).toInt8.toInt32)), (.int (2 : Int32)), (.ref b192)])) rfl rfl (hb hby at_28)
  have V198_b192 := Arv.set Ar_b192_198 q_b192_198 S_b192_198 M_b192_198 H_b192_198 G_b192_198 (fits_nar_byte _) W198 2 rfl (Nat.le_of_ble_eq_true rfl)
  have F198_0 := V198_b192
  have Zs198 : n0 ≤ h198.size := Nat.le_trans Zs196 (Keep.of_wr W198).1
  have K198 := K196.wr W198 (Or.inr sz_b192)
  have N198 := Fr.snoc X198 N196 g_b192
  have pre198 : ∀ t, Steps p.tables e below (T198.setTop (mkF m 29 #[.val (.int bv), .val (.int fv), .val (.int lv), .val (.int pv), .val (.ref b192), .unset, .unset, .unset, .unset, .unset, .unset, .unset, .unset] [])) t → Steps p.tables e below (s₁.setTop (entryFrame m #[(.int bv), (.int fv), (.int lv), (.int pv)] maxLocals)) t := fun t kt => pre197 _ (st198 t kt)
  have pre199 : ∀ t, Steps p.tables e below (T198.setTop (mkF m 37 #[.val (.int bv), .val (.int fv), .val (.int lv), .val (.int pv), .val (.ref b192), .unset, .unset, .unset, .unset, .unset, .unset, .unset, .unset] [(.int (((bv.toUInt32 >>> ((24 : Int32) &&& 31).toUInt32).toInt32).toInt8.toInt32)), (.int (3 : Int32)), (.ref b192)])) t → Steps p.tables e below (s₁.setTop (entryFrame m #[(.int bv), (.int fv), (.int lv), (.int pv)] maxLocals)) t := fun t kt => by
    refine pre198 _ ?_
    show Steps p.tables e below (T198.setTop (mkF m 29 #[.val (.int bv), .val (.int fv), .val (.int lv), .val (.int pv), .val (.ref b192), .unset, .unset, .unset, .unset, .unset, .unset, .unset, .unset] [])) _
    refine XS.aload X198.here hx rfl (hb hby at_29) rfl rfl ?_
    show Steps p.tables e below (T198.setTop (mkF m 31 #[.val (.int bv), .val (.int fv), .val (.int lv), .val (.int pv), .val (.ref b192), .unset, .unset, .unset, .unset, .unset, .unset, .unset, .unset] [(.ref b192)])) _
    refine XS.iconst X198.here hx rfl (hb hby at_31) ?_
    show Steps p.tables e below (T198.setTop (mkF m 32 #[.val (.int bv), .val (.int fv), .val (.int lv), .val (.int pv), .val (.ref b192), .unset, .unset, .unset, .unset, .unset, .unset, .unset, .unset] [(.int (3 : Int32)), (.ref b192)])) _
    refine XS.iloadN X198.here hx rfl (hb hby at_32) rfl ?_
    show Steps p.tables e below (T198.setTop (mkF m 33 #[.val (.int bv), .val (.int fv), .val (.int lv), .val (.int pv), .val (.ref b192), .unset, .unset, .unset, .unset, .unset, .unset, .unset, .unset] [(.int bv), (.int (3 : Int32)), (.ref b192)])) _
    refine XS.bipush X198.here hx rfl (hb hby at_33) ?_
    show Steps p.tables e below (T198.setTop (mkF m 35 #[.val (.int bv), .val (.int fv), .val (.int lv), .val (.int pv), .val (.ref b192), .unset, .unset, .unset, .unset, .unset, .unset, .unset, .unset] [(.int (24 : Int32)), (.int bv), (.int (3 : Int32)), (.ref b192)])) _
    refine XS.iushr X198.here hx rfl (hb hby at_35) rfl ?_
    show Steps p.tables e below (T198.setTop (mkF m 36 #[.val (.int bv), .val (.int fv), .val (.int lv), .val (.int pv), .val (.ref b192), .unset, .unset, .unset, .unset, .unset, .unset, .unset, .unset] [(.int ((bv.toUInt32 >>> ((24 : Int32) &&& 31).toUInt32).toInt32)), (.int (3 : Int32)), (.ref b192)])) _
    refine XS.i2b X198.here hx rfl (hb hby at_36) rfl ?_
    show Steps p.tables e below (T198.setTop (mkF m 37 #[.val (.int bv), .val (.int fv), .val (.int lv), .val (.int pv), .val (.ref b192), .unset, .unset, .unset, .unset, .unset, .unset, .unset, .unset] [(.int (((bv.toUInt32 >>> ((24 : Int32) &&& 31).toUInt32).toInt32).toInt8.toInt32)), (.int (3 : Int32)), (.ref b192)])) _
    exact kt
  have Vo_b192_200 := F198_0
  obtain ⟨cl_b192_200, Ar_b192_200, q_b192_200, S_b192_200, M_b192_200, H_b192_200, G_b192_200⟩ := Vo_b192_200
  have hin200 : ¬ ((3 : Int32) < 0 ∨ cl_b192_200.slots.size ≤ ((3 : Int32)).toNatClampNeg) := inb_of S_b192_200 ⟨by decide, by decide⟩
  obtain ⟨T200, h200, X200, e200, W200, st200⟩ := stB X198 hx hZ e198 Ar_b192_200 (j := (3 : Int32)) hin200 (g := (mkF m 37 #[.val (.int bv), .val (.int fv), .val (.int lv), .val (.int pv), .val (.ref b192), .unset, .unset, .unset, .unset, .unset, .unset, .unset, .unset] [(.int (((bv.toUInt32 >>> ((24 : Int32) &&& 31).toUInt32).toInt32).toInt8.toInt32)), (.int (3 : Int32)), (.ref b192)])) rfl rfl (hb hby at_37)
  have V200_b192 := Arv.set Ar_b192_200 q_b192_200 S_b192_200 M_b192_200 H_b192_200 G_b192_200 (fits_nar_byte _) W200 3 rfl (Nat.le_of_ble_eq_true rfl)
  have F200_0 := V200_b192
  have Zs200 : n0 ≤ h200.size := Nat.le_trans Zs198 (Keep.of_wr W200).1
  have K200 := K198.wr W200 (Or.inr sz_b192)
  have N200 := Fr.snoc X200 N198 g_b192
  have pre200 : ∀ t, Steps p.tables e below (T200.setTop (mkF m 38 #[.val (.int bv), .val (.int fv), .val (.int lv), .val (.int pv), .val (.ref b192), .unset, .unset, .unset, .unset, .unset, .unset, .unset, .unset] [])) t → Steps p.tables e below (s₁.setTop (entryFrame m #[(.int bv), (.int fv), (.int lv), (.int pv)] maxLocals)) t := fun t kt => pre199 _ (st200 t kt)
  obtain ⟨d0, e_d0⟩ : ∃ z : Int32, z = (nar .byte (bv.toInt8.toInt32)) := ⟨_, rfl⟩
  obtain ⟨d1, e_d1⟩ : ∃ z : Int32, z = (nar .byte (((bv.toUInt32 >>> ((8 : Int32) &&& 31).toUInt32).toInt32).toInt8.toInt32)) := ⟨_, rfl⟩
  obtain ⟨d2, e_d2⟩ : ∃ z : Int32, z = (nar .byte (((bv.toUInt32 >>> ((16 : Int32) &&& 31).toUInt32).toInt32).toInt8.toInt32)) := ⟨_, rfl⟩
  obtain ⟨d3, e_d3⟩ : ∃ z : Int32, z = (nar .byte (((bv.toUInt32 >>> ((24 : Int32) &&& 31).toUInt32).toInt32).toInt8.toInt32)) := ⟨_, rfl⟩
  have Vd : Arv Z h200 b192 k192 .byte (4 : Int32) [(.int d0), (.int d1), (.int d2), (.int d3)] (.int (0 : Int32)) := by
    rw [e_d0, e_d1, e_d2, e_d3]
    exact F200_0
  have pre202 : ∀ t, Steps p.tables e below (T200.setTop (mkF m 46 #[.val (.int bv), .val (.int fv), .val (.int lv), .val (.int pv), .val (.ref b192), .val (.int ((fv &&& (2147483647 : Int32)) - ((fv &&& (2147483647 : Int32)) / (5 : Int32)) * (5 : Int32))), .unset, .unset, .unset, .unset, .unset, .unset, .unset] [])) t → Steps p.tables e below (s₁.setTop (entryFrame m #[(.int bv), (.int fv), (.int lv), (.int pv)] maxLocals)) t := fun t kt => by
    refine pre200 _ ?_
    show Steps p.tables e below (T200.setTop (mkF m 38 #[.val (.int bv), .val (.int fv), .val (.int lv), .val (.int pv), .val (.ref b192), .unset, .unset, .unset, .unset, .unset, .unset, .unset, .unset] [])) _
    refine XS.iloadN X200.here hx rfl (hb hby at_38) rfl ?_
    show Steps p.tables e below (T200.setTop (mkF m 39 #[.val (.int bv), .val (.int fv), .val (.int lv), .val (.int pv), .val (.ref b192), .unset, .unset, .unset, .unset, .unset, .unset, .unset, .unset] [(.int fv)])) _
    refine X200.ldcInt hx hown (mvT hZ (hw _ (List.mem_of_getElem? (i := 1) rfl))) (g := (mkF m 39 #[.val (.int bv), .val (.int fv), .val (.int lv), .val (.int pv), .val (.ref b192), .unset, .unset, .unset, .unset, .unset, .unset, .unset, .unset] [(.int fv)])) rfl (hb hby at_39) _ ?_
    show Steps p.tables e below (T200.setTop (mkF m 41 #[.val (.int bv), .val (.int fv), .val (.int lv), .val (.int pv), .val (.ref b192), .unset, .unset, .unset, .unset, .unset, .unset, .unset, .unset] [(.int (2147483647 : Int32)), (.int fv)])) _
    refine XS.iand X200.here hx rfl (hb hby at_41) rfl ?_
    show Steps p.tables e below (T200.setTop (mkF m 42 #[.val (.int bv), .val (.int fv), .val (.int lv), .val (.int pv), .val (.ref b192), .unset, .unset, .unset, .unset, .unset, .unset, .unset, .unset] [(.int (fv &&& (2147483647 : Int32)))])) _
    refine XS.iconst X200.here hx rfl (hb hby at_42) ?_
    show Steps p.tables e below (T200.setTop (mkF m 43 #[.val (.int bv), .val (.int fv), .val (.int lv), .val (.int pv), .val (.ref b192), .unset, .unset, .unset, .unset, .unset, .unset, .unset, .unset] [(.int (5 : Int32)), (.int (fv &&& (2147483647 : Int32)))])) _
    refine XS.irem X200.here hx rfl (hb hby at_43) rfl (by decide) ?_
    show Steps p.tables e below (T200.setTop (mkF m 44 #[.val (.int bv), .val (.int fv), .val (.int lv), .val (.int pv), .val (.ref b192), .unset, .unset, .unset, .unset, .unset, .unset, .unset, .unset] [(.int ((fv &&& (2147483647 : Int32)) - ((fv &&& (2147483647 : Int32)) / (5 : Int32)) * (5 : Int32)))])) _
    refine XS.istore X200.here hx rfl (hb hby at_44) rfl (l' := #[.val (.int bv), .val (.int fv), .val (.int lv), .val (.int pv), .val (.ref b192), .val (.int ((fv &&& (2147483647 : Int32)) - ((fv &&& (2147483647 : Int32)) / (5 : Int32)) * (5 : Int32))), .unset, .unset, .unset, .unset, .unset, .unset, .unset]) rfl ?_
    show Steps p.tables e below (T200.setTop (mkF m 46 #[.val (.int bv), .val (.int fv), .val (.int lv), .val (.int pv), .val (.ref b192), .val (.int ((fv &&& (2147483647 : Int32)) - ((fv &&& (2147483647 : Int32)) / (5 : Int32)) * (5 : Int32))), .unset, .unset, .unset, .unset, .unset, .unset, .unset] [])) _
    exact kt
  obtain ⟨ov, ho, eo⟩ := own_off fv 5 (by omega) (by omega) (5 : Int32) (by decide)
  have pre203 : ∀ t, Steps p.tables e below (T200.setTop (mkF m 46 #[.val (.int bv), .val (.int fv), .val (.int lv), .val (.int pv), .val (.ref b192), .val (.int (Int32.ofNat ov)), .unset, .unset, .unset, .unset, .unset, .unset, .unset] [])) t → Steps p.tables e below (s₁.setTop (entryFrame m #[(.int bv), (.int fv), (.int lv), (.int pv)] maxLocals)) t := by
    have q := pre202
    rw [eo] at q
    exact q
  have k5 : (5 : Int32).toInt = 5 := by decide
  have h5 : ((5 : Int32) - (Int32.ofNat ov)).toInt = 5 - ov := by
    have e := own_nat (n := ov) (by omega)
    rw [Jvm.Kit.i32_sub (by omega) (by omega), e, k5]
  have hnz : ((5 : Int32) - (Int32.ofNat ov)) ≠ 0 := fun q => by
    rw [q] at h5
    have : (0 : Int32).toInt = 0 := by decide
    omega
  have pre204 : ∀ t, Steps p.tables e below (T200.setTop (mkF m 57 #[.val (.int bv), .val (.int fv), .val (.int lv), .val (.int pv), .val (.ref b192), .val (.int (Int32.ofNat ov)), .val (.int ((lv &&& (2147483647 : Int32)) - ((lv &&& (2147483647 : Int32)) / ((5 : Int32) - (Int32.ofNat ov))) * ((5 : Int32) - (Int32.ofNat ov)))), .unset, .unset, .unset, .unset, .unset, .unset] [])) t → Steps p.tables e below (s₁.setTop (entryFrame m #[(.int bv), (.int fv), (.int lv), (.int pv)] maxLocals)) t := fun t kt => by
    refine pre203 _ ?_
    show Steps p.tables e below (T200.setTop (mkF m 46 #[.val (.int bv), .val (.int fv), .val (.int lv), .val (.int pv), .val (.ref b192), .val (.int (Int32.ofNat ov)), .unset, .unset, .unset, .unset, .unset, .unset, .unset] [])) _
    refine XS.iloadN X200.here hx rfl (hb hby at_46) rfl ?_
    show Steps p.tables e below (T200.setTop (mkF m 47 #[.val (.int bv), .val (.int fv), .val (.int lv), .val (.int pv), .val (.ref b192), .val (.int (Int32.ofNat ov)), .unset, .unset, .unset, .unset, .unset, .unset, .unset] [(.int lv)])) _
    refine X200.ldcInt hx hown (mvT hZ (hw _ (List.mem_of_getElem? (i := 1) rfl))) (g := (mkF m 47 #[.val (.int bv), .val (.int fv), .val (.int lv), .val (.int pv), .val (.ref b192), .val (.int (Int32.ofNat ov)), .unset, .unset, .unset, .unset, .unset, .unset, .unset] [(.int lv)])) rfl (hb hby at_47) _ ?_
    show Steps p.tables e below (T200.setTop (mkF m 49 #[.val (.int bv), .val (.int fv), .val (.int lv), .val (.int pv), .val (.ref b192), .val (.int (Int32.ofNat ov)), .unset, .unset, .unset, .unset, .unset, .unset, .unset] [(.int (2147483647 : Int32)), (.int lv)])) _
    refine XS.iand X200.here hx rfl (hb hby at_49) rfl ?_
    show Steps p.tables e below (T200.setTop (mkF m 50 #[.val (.int bv), .val (.int fv), .val (.int lv), .val (.int pv), .val (.ref b192), .val (.int (Int32.ofNat ov)), .unset, .unset, .unset, .unset, .unset, .unset, .unset] [(.int (lv &&& (2147483647 : Int32)))])) _
    refine XS.iconst X200.here hx rfl (hb hby at_50) ?_
    show Steps p.tables e below (T200.setTop (mkF m 51 #[.val (.int bv), .val (.int fv), .val (.int lv), .val (.int pv), .val (.ref b192), .val (.int (Int32.ofNat ov)), .unset, .unset, .unset, .unset, .unset, .unset, .unset] [(.int (5 : Int32)), (.int (lv &&& (2147483647 : Int32)))])) _
    refine XS.iload X200.here hx rfl (hb hby at_51) rfl ?_
    show Steps p.tables e below (T200.setTop (mkF m 53 #[.val (.int bv), .val (.int fv), .val (.int lv), .val (.int pv), .val (.ref b192), .val (.int (Int32.ofNat ov)), .unset, .unset, .unset, .unset, .unset, .unset, .unset] [(.int (Int32.ofNat ov)), (.int (5 : Int32)), (.int (lv &&& (2147483647 : Int32)))])) _
    refine XS.isub X200.here hx rfl (hb hby at_53) rfl ?_
    show Steps p.tables e below (T200.setTop (mkF m 54 #[.val (.int bv), .val (.int fv), .val (.int lv), .val (.int pv), .val (.ref b192), .val (.int (Int32.ofNat ov)), .unset, .unset, .unset, .unset, .unset, .unset, .unset] [(.int ((5 : Int32) - (Int32.ofNat ov))), (.int (lv &&& (2147483647 : Int32)))])) _
    refine XS.irem X200.here hx rfl (hb hby at_54) rfl hnz ?_
    show Steps p.tables e below (T200.setTop (mkF m 55 #[.val (.int bv), .val (.int fv), .val (.int lv), .val (.int pv), .val (.ref b192), .val (.int (Int32.ofNat ov)), .unset, .unset, .unset, .unset, .unset, .unset, .unset] [(.int ((lv &&& (2147483647 : Int32)) - ((lv &&& (2147483647 : Int32)) / ((5 : Int32) - (Int32.ofNat ov))) * ((5 : Int32) - (Int32.ofNat ov))))])) _
    refine XS.istore X200.here hx rfl (hb hby at_55) rfl (l' := #[.val (.int bv), .val (.int fv), .val (.int lv), .val (.int pv), .val (.ref b192), .val (.int (Int32.ofNat ov)), .val (.int ((lv &&& (2147483647 : Int32)) - ((lv &&& (2147483647 : Int32)) / ((5 : Int32) - (Int32.ofNat ov))) * ((5 : Int32) - (Int32.ofNat ov)))), .unset, .unset, .unset, .unset, .unset, .unset]) rfl ?_
    show Steps p.tables e below (T200.setTop (mkF m 57 #[.val (.int bv), .val (.int fv), .val (.int lv), .val (.int pv), .val (.ref b192), .val (.int (Int32.ofNat ov)), .val (.int ((lv &&& (2147483647 : Int32)) - ((lv &&& (2147483647 : Int32)) / ((5 : Int32) - (Int32.ofNat ov))) * ((5 : Int32) - (Int32.ofNat ov)))), .unset, .unset, .unset, .unset, .unset, .unset] [])) _
    exact kt
  obtain ⟨nv, hn, en⟩ := own_off lv (5 - ov) (by omega) (by omega) _ h5
  have pre205 : ∀ t, Steps p.tables e below (T200.setTop (mkF m 57 #[.val (.int bv), .val (.int fv), .val (.int lv), .val (.int pv), .val (.ref b192), .val (.int (Int32.ofNat ov)), .val (.int (Int32.ofNat nv)), .unset, .unset, .unset, .unset, .unset, .unset] [])) t → Steps p.tables e below (s₁.setTop (entryFrame m #[(.int bv), (.int fv), (.int lv), (.int pv)] maxLocals)) t := by
    have q := pre204
    rw [en] at q
    exact q
  have hon : ov + nv ≤ 4 := by omega
  have pre206 : ∀ t, Steps p.tables e below (T200.setTop (mkF m 64 #[.val (.int bv), .val (.int fv), .val (.int lv), .val (.int pv), .val (.ref b192), .val (.int (Int32.ofNat ov)), .val (.int (Int32.ofNat nv)), .val (.int (pv &&& (255 : Int32))), .unset, .unset, .unset, .unset, .unset] [])) t → Steps p.tables e below (s₁.setTop (entryFrame m #[(.int bv), (.int fv), (.int lv), (.int pv)] maxLocals)) t := fun t kt => by
    refine pre205 _ ?_
    show Steps p.tables e below (T200.setTop (mkF m 57 #[.val (.int bv), .val (.int fv), .val (.int lv), .val (.int pv), .val (.ref b192), .val (.int (Int32.ofNat ov)), .val (.int (Int32.ofNat nv)), .unset, .unset, .unset, .unset, .unset, .unset] [])) _
    refine XS.iloadN X200.here hx rfl (hb hby at_57) rfl ?_
    show Steps p.tables e below (T200.setTop (mkF m 58 #[.val (.int bv), .val (.int fv), .val (.int lv), .val (.int pv), .val (.ref b192), .val (.int (Int32.ofNat ov)), .val (.int (Int32.ofNat nv)), .unset, .unset, .unset, .unset, .unset, .unset] [(.int pv)])) _
    refine XS.sipush X200.here hx rfl (hb hby at_58) ?_
    show Steps p.tables e below (T200.setTop (mkF m 61 #[.val (.int bv), .val (.int fv), .val (.int lv), .val (.int pv), .val (.ref b192), .val (.int (Int32.ofNat ov)), .val (.int (Int32.ofNat nv)), .unset, .unset, .unset, .unset, .unset, .unset] [(.int (255 : Int32)), (.int pv)])) _
    refine XS.iand X200.here hx rfl (hb hby at_61) rfl ?_
    show Steps p.tables e below (T200.setTop (mkF m 62 #[.val (.int bv), .val (.int fv), .val (.int lv), .val (.int pv), .val (.ref b192), .val (.int (Int32.ofNat ov)), .val (.int (Int32.ofNat nv)), .unset, .unset, .unset, .unset, .unset, .unset] [(.int (pv &&& (255 : Int32)))])) _
    refine XS.istore X200.here hx rfl (hb hby at_62) rfl (l' := #[.val (.int bv), .val (.int fv), .val (.int lv), .val (.int pv), .val (.ref b192), .val (.int (Int32.ofNat ov)), .val (.int (Int32.ofNat nv)), .val (.int (pv &&& (255 : Int32))), .unset, .unset, .unset, .unset, .unset]) rfl ?_
    show Steps p.tables e below (T200.setTop (mkF m 64 #[.val (.int bv), .val (.int fv), .val (.int lv), .val (.int pv), .val (.ref b192), .val (.int (Int32.ofNat ov)), .val (.int (Int32.ofNat nv)), .val (.int (pv &&& (255 : Int32))), .unset, .unset, .unset, .unset, .unset] [])) _
    exact kt
  obtain ⟨vp, e_vp⟩ : ∃ z : Int32, z = (pv &&& (255 : Int32)) := ⟨_, rfl⟩
  have pre207 : ∀ t, Steps p.tables e below (T200.setTop (mkF m 64 #[.val (.int bv), .val (.int fv), .val (.int lv), .val (.int pv), .val (.ref b192), .val (.int (Int32.ofNat ov)), .val (.int (Int32.ofNat nv)), .val (.int vp), .unset, .unset, .unset, .unset, .unset] [])) t → Steps p.tables e below (s₁.setTop (entryFrame m #[(.int bv), (.int fv), (.int lv), (.int pv)] maxLocals)) t := by rw [e_vp]; exact pre206
  have hvp := own_b pv
  rw [← e_vp] at hvp
  have pre208 : ∀ t, Steps p.tables e below (T200.setTop (mkF m 70 #[.val (.int bv), .val (.int fv), .val (.int lv), .val (.int pv), .val (.ref b192), .val (.int (Int32.ofNat ov)), .val (.int (Int32.ofNat nv)), .val (.int vp), .unset, .unset, .unset, .unset, .unset] [(.int (Int32.ofNat nv)), (.int (Int32.ofNat ov)), (.ref b192)])) t → Steps p.tables e below (s₁.setTop (entryFrame m #[(.int bv), (.int fv), (.int lv), (.int pv)] maxLocals)) t := fun t kt => by
    refine pre207 _ ?_
    show Steps p.tables e below (T200.setTop (mkF m 64 #[.val (.int bv), .val (.int fv), .val (.int lv), .val (.int pv), .val (.ref b192), .val (.int (Int32.ofNat ov)), .val (.int (Int32.ofNat nv)), .val (.int vp), .unset, .unset, .unset, .unset, .unset] [])) _
    refine XS.aload X200.here hx rfl (hb hby at_64) rfl rfl ?_
    show Steps p.tables e below (T200.setTop (mkF m 66 #[.val (.int bv), .val (.int fv), .val (.int lv), .val (.int pv), .val (.ref b192), .val (.int (Int32.ofNat ov)), .val (.int (Int32.ofNat nv)), .val (.int vp), .unset, .unset, .unset, .unset, .unset] [(.ref b192)])) _
    refine XS.iload X200.here hx rfl (hb hby at_66) rfl ?_
    show Steps p.tables e below (T200.setTop (mkF m 68 #[.val (.int bv), .val (.int fv), .val (.int lv), .val (.int pv), .val (.ref b192), .val (.int (Int32.ofNat ov)), .val (.int (Int32.ofNat nv)), .val (.int vp), .unset, .unset, .unset, .unset, .unset] [(.int (Int32.ofNat ov)), (.ref b192)])) _
    refine XS.iload X200.here hx rfl (hb hby at_68) rfl ?_
    show Steps p.tables e below (T200.setTop (mkF m 70 #[.val (.int bv), .val (.int fv), .val (.int lv), .val (.int pv), .val (.ref b192), .val (.int (Int32.ofNat ov)), .val (.int (Int32.ofNat nv)), .val (.int vp), .unset, .unset, .unset, .unset, .unset] [(.int (Int32.ofNat nv)), (.int (Int32.ofNat ov)), (.ref b192)])) _
    exact kt
  obtain ⟨_, _, ⟨T209, L209, k209, n209⟩, -, X209, ⟨Lc209, hQ209, l209, y209, z209⟩, st209⟩ := Jvm.LawKit.callS X200 hx (y := (⟨"com/example/leafweight/leafweight/BlockCode", "count", "([BII)[I"⟩ : MethodName)) hown (mvT hZ (hw _ (List.mem_of_getElem? (i := 2) rfl))) (mvT hZ (hw _ (List.mem_of_getElem? (i := 3) rfl))) (mvT hZ (hw _ (List.mem_of_getElem? (i := 4) rfl))) (mvT hZ (hw _ (List.mem_of_getElem? (i := 5) rfl))) (by decide) (backOf (W := 0) (rm1 l Z aZ hw [] b192 ov nv k192 d0 d1 d2 d3 h200 n0 Zs200 Vd hon) hZ (hw _ (List.mem_of_getElem? (i := 5) rfl)) (hw _ (List.mem_of_getElem? (i := 4) rfl)) (by decide) (by decide)) (g := (mkF m 70 #[.val (.int bv), .val (.int fv), .val (.int lv), .val (.int pv), .val (.ref b192), .val (.int (Int32.ofNat ov)), .val (.int (Int32.ofNat nv)), .val (.int vp), .unset, .unset, .unset, .unset, .unset] [(.int (Int32.ofNat nv)), (.int (Int32.ofNat ov)), (.ref b192)])) rfl (by rw [hml]; rfl) (argsL := [(.ref b192), (.int (Int32.ofNat ov)), (.int (Int32.ofNat nv))]) (rest := []) (lenOf pd_0 rfl) rfl (by show 2 * 0 + _ ≤ _; exact Nat.le_of_eq rfl) (hb hby at_70) (fun _ _ => ⟨rfl, e200, (by decide : 1 + 1 ≤ _), (by decide : 4 + 256 ≤ _)⟩)
  dsimp only [Pt.U, Pt.locs, Pt.cells, Pt.slots] at X209 l209 y209 z209 st209 hQ209
  subst l209 y209 z209
  obtain ⟨ca, kc, rfl, N209q, Kc209, sz_ca, Vc209⟩ := hQ209
  have N209 := Fr.app N200 N209q
  have pre209 : ∀ t, Steps p.tables e below (T209.setTop (mkF m 73 #[.val (.int bv), .val (.int fv), .val (.int lv), .val (.int pv), .val (.ref b192), .val (.int (Int32.ofNat ov)), .val (.int (Int32.ofNat nv)), .val (.int vp), .unset, .unset, .unset, .unset, .unset] [(.ref ca)])) t → Steps p.tables e below (s₁.setTop (entryFrame m #[(.int bv), (.int fv), (.int lv), (.int pv)] maxLocals)) t := fun t kt => pre208 _ (st209 t kt)
  have Zs209 : n0 ≤ T209.heap.size := Nat.le_trans Zs200 Kc209.1
  have F209_0 := Vd.keep Kc209 (by simp)
  have K209 := K200.trans Kc209 (by simp)
  have pre210 : ∀ t, Steps p.tables e below (T209.setTop (mkF m 77 #[.val (.int bv), .val (.int fv), .val (.int lv), .val (.int pv), .val (.ref b192), .val (.int (Int32.ofNat ov)), .val (.int (Int32.ofNat nv)), .val (.int vp), .val (.ref ca), .unset, .unset, .unset, .unset] [(.ref ca)])) t → Steps p.tables e below (s₁.setTop (entryFrame m #[(.int bv), (.int fv), (.int lv), (.int pv)] maxLocals)) t := fun t kt => by
    refine pre209 _ ?_
    show Steps p.tables e below (T209.setTop (mkF m 73 #[.val (.int bv), .val (.int fv), .val (.int lv), .val (.int pv), .val (.ref b192), .val (.int (Int32.ofNat ov)), .val (.int (Int32.ofNat nv)), .val (.int vp), .unset, .unset, .unset, .unset, .unset] [(.ref ca)])) _
    refine XS.astore X209.here hx rfl (hb hby at_73) rfl rfl (l' := #[.val (.int bv), .val (.int fv), .val (.int lv), .val (.int pv), .val (.ref b192), .val (.int (Int32.ofNat ov)), .val (.int (Int32.ofNat nv)), .val (.int vp), .val (.ref ca), .unset, .unset, .unset, .unset]) rfl ?_
    show Steps p.tables e below (T209.setTop (mkF m 75 #[.val (.int bv), .val (.int fv), .val (.int lv), .val (.int pv), .val (.ref b192), .val (.int (Int32.ofNat ov)), .val (.int (Int32.ofNat nv)), .val (.int vp), .val (.ref ca), .unset, .unset, .unset, .unset] [])) _
    refine XS.aload X209.here hx rfl (hb hby at_75) rfl rfl ?_
    show Steps p.tables e below (T209.setTop (mkF m 77 #[.val (.int bv), .val (.int fv), .val (.int lv), .val (.int pv), .val (.ref b192), .val (.int (Int32.ofNat ov)), .val (.int (Int32.ofNat nv)), .val (.int vp), .val (.ref ca), .unset, .unset, .unset, .unset] [(.ref ca)])) _
    exact kt
  have pre211 : ∀ t, Steps p.tables e below (T209.setTop (mkF m 80 #[.val (.int bv), .val (.int fv), .val (.int lv), .val (.int pv), .val (.ref b192), .val (.int (Int32.ofNat ov)), .val (.int (Int32.ofNat nv)), .val (.int vp), .val (.ref ca), .unset, .unset, .unset, .unset] [])) t → Steps p.tables e below (s₁.setTop (entryFrame m #[(.int bv), (.int fv), (.int lv), (.int pv)] maxLocals)) t := fun t kt => pre210 _ (XS.ifnullNo X209.here hx rfl (hb hby at_77) rfl kt)
  have pre212 : ∀ t, Steps p.tables e below (T209.setTop (mkF m 82 #[.val (.int bv), .val (.int fv), .val (.int lv), .val (.int pv), .val (.ref b192), .val (.int (Int32.ofNat ov)), .val (.int (Int32.ofNat nv)), .val (.int vp), .val (.ref ca), .unset, .unset, .unset, .unset] [(.ref ca)])) t → Steps p.tables e below (s₁.setTop (entryFrame m #[(.int bv), (.int fv), (.int lv), (.int pv)] maxLocals)) t := fun t kt => by
    refine pre211 _ ?_
    show Steps p.tables e below (T209.setTop (mkF m 80 #[.val (.int bv), .val (.int fv), .val (.int lv), .val (.int pv), .val (.ref b192), .val (.int (Int32.ofNat ov)), .val (.int (Int32.ofNat nv)), .val (.int vp), .val (.ref ca), .unset, .unset, .unset, .unset] [])) _
    refine XS.aload X209.here hx rfl (hb hby at_80) rfl rfl ?_
    show Steps p.tables e below (T209.setTop (mkF m 82 #[.val (.int bv), .val (.int fv), .val (.int lv), .val (.int pv), .val (.ref b192), .val (.int (Int32.ofNat ov)), .val (.int (Int32.ofNat nv)), .val (.int vp), .val (.ref ca), .unset, .unset, .unset, .unset] [(.ref ca)])) _
    exact kt
  have Vo_ca_213 := Vc209
  obtain ⟨cl_ca_213, Ar_ca_213, q_ca_213, S_ca_213, M_ca_213, H_ca_213, G_ca_213⟩ := Vo_ca_213
  have pre213 : ∀ t, Steps p.tables e below (T209.setTop (mkF m 83 #[.val (.int bv), .val (.int fv), .val (.int lv), .val (.int pv), .val (.ref b192), .val (.int (Int32.ofNat ov)), .val (.int (Int32.ofNat nv)), .val (.int vp), .val (.ref ca), .unset, .unset, .unset, .unset] [(.int (256 : Int32))])) t → Steps p.tables e below (s₁.setTop (entryFrame m #[(.int bv), (.int fv), (.int lv), (.int pv)] maxLocals)) t := fun t kt => by
    refine pre212 _ ?_
    refine X209.arraylength hx Ar_ca_213.1 (State.isArrayOf_alike hZ.alike Ar_ca_213.2.1) (g := (mkF m 82 #[.val (.int bv), .val (.int fv), .val (.int lv), .val (.int pv), .val (.ref b192), .val (.int (Int32.ofNat ov)), .val (.int (Int32.ofNat nv)), .val (.int vp), .val (.ref ca), .unset, .unset, .unset, .unset] [(.ref ca)])) rfl rfl (hb hby at_82) _ ?_
    rw [len_of S_ca_213 M_ca_213]
    exact kt
  have pre214 : ∀ t, Steps p.tables e below (T209.setTop (mkF m 86 #[.val (.int bv), .val (.int fv), .val (.int lv), .val (.int pv), .val (.ref b192), .val (.int (Int32.ofNat ov)), .val (.int (Int32.ofNat nv)), .val (.int vp), .val (.ref ca), .unset, .unset, .unset, .unset] [(.int (256 : Int32)), (.int (256 : Int32))])) t → Steps p.tables e below (s₁.setTop (entryFrame m #[(.int bv), (.int fv), (.int lv), (.int pv)] maxLocals)) t := fun t kt => by
    refine pre213 _ ?_
    show Steps p.tables e below (T209.setTop (mkF m 83 #[.val (.int bv), .val (.int fv), .val (.int lv), .val (.int pv), .val (.ref b192), .val (.int (Int32.ofNat ov)), .val (.int (Int32.ofNat nv)), .val (.int vp), .val (.ref ca), .unset, .unset, .unset, .unset] [(.int (256 : Int32))])) _
    refine XS.sipush X209.here hx rfl (hb hby at_83) ?_
    show Steps p.tables e below (T209.setTop (mkF m 86 #[.val (.int bv), .val (.int fv), .val (.int lv), .val (.int pv), .val (.ref b192), .val (.int (Int32.ofNat ov)), .val (.int (Int32.ofNat nv)), .val (.int vp), .val (.ref ca), .unset, .unset, .unset, .unset] [(.int (256 : Int32)), (.int (256 : Int32))])) _
    exact kt
  have pre215 : ∀ t, Steps p.tables e below (T209.setTop (mkF m 91 #[.val (.int bv), .val (.int fv), .val (.int lv), .val (.int pv), .val (.ref b192), .val (.int (Int32.ofNat ov)), .val (.int (Int32.ofNat nv)), .val (.int vp), .val (.ref ca), .unset, .unset, .unset, .unset] [])) t → Steps p.tables e below (s₁.setTop (entryFrame m #[(.int bv), (.int fv), (.int lv), (.int pv)] maxLocals)) t := fun t kt => by
    refine pre214 _ ?_
    show Steps p.tables e below (T209.setTop (mkF m 86 #[.val (.int bv), .val (.int fv), .val (.int lv), .val (.int pv), .val (.ref b192), .val (.int (Int32.ofNat ov)), .val (.int (Int32.ofNat nv)), .val (.int vp), .val (.ref ca), .unset, .unset, .unset, .unset] [(.int (256 : Int32)), (.int (256 : Int32))])) _
    refine XS.icmpYes X209.here hx rfl (pc0 := 86) (pc' := 91) rfl (hb hby at_86) rfl (teq (by decide : (256 : Int32) = (256 : Int32))).1 (by decide) (by decide) ?_
    show Steps p.tables e below (T209.setTop (mkF m 91 #[.val (.int bv), .val (.int fv), .val (.int lv), .val (.int pv), .val (.ref b192), .val (.int (Int32.ofNat ov)), .val (.int (Int32.ofNat nv)), .val (.int vp), .val (.ref ca), .unset, .unset, .unset, .unset] [])) _
    exact kt
  have pre216 : ∀ t, Steps p.tables e below (T209.setTop (mkF m 94 #[.val (.int bv), .val (.int fv), .val (.int lv), .val (.int pv), .val (.ref b192), .val (.int (Int32.ofNat ov)), .val (.int (Int32.ofNat nv)), .val (.int vp), .val (.ref ca), .unset, .unset, .unset, .unset] [(.int (0 : Int32)), (.ref b192)])) t → Steps p.tables e below (s₁.setTop (entryFrame m #[(.int bv), (.int fv), (.int lv), (.int pv)] maxLocals)) t := fun t kt => by
    refine pre215 _ ?_
    show Steps p.tables e below (T209.setTop (mkF m 91 #[.val (.int bv), .val (.int fv), .val (.int lv), .val (.int pv), .val (.ref b192), .val (.int (Int32.ofNat ov)), .val (.int (Int32.ofNat nv)), .val (.int vp), .val (.ref ca), .unset, .unset, .unset, .unset] [])) _
    refine XS.aload X209.here hx rfl (hb hby at_91) rfl rfl ?_
    show Steps p.tables e below (T209.setTop (mkF m 93 #[.val (.int bv), .val (.int fv), .val (.int lv), .val (.int pv), .val (.ref b192), .val (.int (Int32.ofNat ov)), .val (.int (Int32.ofNat nv)), .val (.int vp), .val (.ref ca), .unset, .unset, .unset, .unset] [(.ref b192)])) _
    refine XS.iconst X209.here hx rfl (hb hby at_93) ?_
    show Steps p.tables e below (T209.setTop (mkF m 94 #[.val (.int bv), .val (.int fv), .val (.int lv), .val (.int pv), .val (.ref b192), .val (.int (Int32.ofNat ov)), .val (.int (Int32.ofNat nv)), .val (.int vp), .val (.ref ca), .unset, .unset, .unset, .unset] [(.int (0 : Int32)), (.ref b192)])) _
    exact kt
  have Vo_b192_217 := F209_0
  obtain ⟨cl_b192_217, Ar_b192_217, q_b192_217, S_b192_217, M_b192_217, H_b192_217, G_b192_217⟩ := Vo_b192_217
  have hin217 : ¬ ((0 : Int32) < 0 ∨ cl_b192_217.slots.size ≤ ((0 : Int32)).toNatClampNeg) := inb_of S_b192_217 ⟨by decide, by decide⟩
  have hat217 : cl_b192_217.slots[((0 : Int32)).toNatClampNeg]? = some (.int d0) := H_b192_217.at hin217 rfl
  have pre218 : ∀ t, Steps p.tables e below (T209.setTop (mkF m 95 #[.val (.int bv), .val (.int fv), .val (.int lv), .val (.int pv), .val (.ref b192), .val (.int (Int32.ofNat ov)), .val (.int (Int32.ofNat nv)), .val (.int vp), .val (.ref ca), .unset, .unset, .unset, .unset] [(.int d0)])) t → Steps p.tables e below (s₁.setTop (entryFrame m #[(.int bv), (.int fv), (.int lv), (.int pv)] maxLocals)) t := fun t kt => pre216 _ (X209.baloadBytes hx (j := (0 : Int32)) (v := (.int d0)) Ar_b192_217.1 (State.isArrayOf_alike hZ.alike Ar_b192_217.2.1) Ar_b192_217.2.2 hin217 hat217 (g := (mkF m 94 #[.val (.int bv), .val (.int fv), .val (.int lv), .val (.int pv), .val (.ref b192), .val (.int (Int32.ofNat ov)), .val (.int (Int32.ofNat nv)), .val (.int vp), .val (.ref ca), .unset, .unset, .unset, .unset] [(.int (0 : Int32)), (.ref b192)])) rfl rfl (hb hby at_94) t kt)
  have pre219 : ∀ t, Steps p.tables e below (T209.setTop (mkF m 104 #[.val (.int bv), .val (.int fv), .val (.int lv), .val (.int pv), .val (.ref b192), .val (.int (Int32.ofNat ov)), .val (.int (Int32.ofNat nv)), .val (.int vp), .val (.ref ca), .val (.int (d0 &&& (255 : Int32))), .unset, .unset, .unset] [(.int (1 : Int32)), (.ref b192)])) t → Steps p.tables e below (s₁.setTop (entryFrame m #[(.int bv), (.int fv), (.int lv), (.int pv)] maxLocals)) t := fun t kt => by
    refine pre218 _ ?_
    show Steps p.tables e below (T209.setTop (mkF m 95 #[.val (.int bv), .val (.int fv), .val (.int lv), .val (.int pv), .val (.ref b192), .val (.int (Int32.ofNat ov)), .val (.int (Int32.ofNat nv)), .val (.int vp), .val (.ref ca), .unset, .unset, .unset, .unset] [(.int d0)])) _
    refine XS.sipush X209.here hx rfl (hb hby at_95) ?_
    show Steps p.tables e below (T209.setTop (mkF m 98 #[.val (.int bv), .val (.int fv), .val (.int lv), .val (.int pv), .val (.ref b192), .val (.int (Int32.ofNat ov)), .val (.int (Int32.ofNat nv)), .val (.int vp), .val (.ref ca), .unset, .unset, .unset, .unset] [(.int (255 : Int32)), (.int d0)])) _
    refine XS.iand X209.here hx rfl (hb hby at_98) rfl ?_
    show Steps p.tables e below (T209.setTop (mkF m 99 #[.val (.int bv), .val (.int fv), .val (.int lv), .val (.int pv), .val (.ref b192), .val (.int (Int32.ofNat ov)), .val (.int (Int32.ofNat nv)), .val (.int vp), .val (.ref ca), .unset, .unset, .unset, .unset] [(.int (d0 &&& (255 : Int32)))])) _
    refine XS.istore X209.here hx rfl (hb hby at_99) rfl (l' := #[.val (.int bv), .val (.int fv), .val (.int lv), .val (.int pv), .val (.ref b192), .val (.int (Int32.ofNat ov)), .val (.int (Int32.ofNat nv)), .val (.int vp), .val (.ref ca), .val (.int (d0 &&& (255 : Int32))), .unset, .unset, .unset]) rfl ?_
    show Steps p.tables e below (T209.setTop (mkF m 101 #[.val (.int bv), .val (.int fv), .val (.int lv), .val (.int pv), .val (.ref b192), .val (.int (Int32.ofNat ov)), .val (.int (Int32.ofNat nv)), .val (.int vp), .val (.ref ca), .val (.int (d0 &&& (255 : Int32))), .unset, .unset, .unset] [])) _
    refine XS.aload X209.here hx rfl (hb hby at_101) rfl rfl ?_
    show Steps p.tables e below (T209.setTop (mkF m 103 #[.val (.int bv), .val (.int fv), .val (.int lv), .val (.int pv), .val (.ref b192), .val (.int (Int32.ofNat ov)), .val (.int (Int32.ofNat nv)), .val (.int vp), .val (.ref ca), .val (.int (d0 &&& (255 : Int32))), .unset, .unset, .unset] [(.ref b192)])) _
    refine XS.iconst X209.here hx rfl (hb hby at_103) ?_
    show Steps p.tables e below (T209.setTop (mkF m 104 #[.val (.int bv), .val (.int fv), .val (.int lv), .val (.int pv), .val (.ref b192), .val (.int (Int32.ofNat ov)), .val (.int (Int32.ofNat nv)), .val (.int vp), .val (.ref ca), .val (.int (d0 &&& (255 : Int32))), .unset, .unset, .unset] [(.int (1 : Int32)), (.ref b192)])) _
    exact kt
  have Vo_b192_220 := F209_0
  obtain ⟨cl_b192_220, Ar_b192_220, q_b192_220, S_b192_220, M_b192_220, H_b192_220, G_b192_220⟩ := Vo_b192_220
  have hin220 : ¬ ((1 : Int32) < 0 ∨ cl_b192_220.slots.size ≤ ((1 : Int32)).toNatClampNeg) := inb_of S_b192_220 ⟨by decide, by decide⟩
  have hat220 : cl_b192_220.slots[((1 : Int32)).toNatClampNeg]? = some (.int d1) := H_b192_220.at hin220 rfl
  have pre221 : ∀ t, Steps p.tables e below (T209.setTop (mkF m 105 #[.val (.int bv), .val (.int fv), .val (.int lv), .val (.int pv), .val (.ref b192), .val (.int (Int32.ofNat ov)), .val (.int (Int32.ofNat nv)), .val (.int vp), .val (.ref ca), .val (.int (d0 &&& (255 : Int32))), .unset, .unset, .unset] [(.int d1)])) t → Steps p.tables e below (s₁.setTop (entryFrame m #[(.int bv), (.int fv), (.int lv), (.int pv)] maxLocals)) t := fun t kt => pre219 _ (X209.baloadBytes hx (j := (1 : Int32)) (v := (.int d1)) Ar_b192_220.1 (State.isArrayOf_alike hZ.alike Ar_b192_220.2.1) Ar_b192_220.2.2 hin220 hat220 (g := (mkF m 104 #[.val (.int bv), .val (.int fv), .val (.int lv), .val (.int pv), .val (.ref b192), .val (.int (Int32.ofNat ov)), .val (.int (Int32.ofNat nv)), .val (.int vp), .val (.ref ca), .val (.int (d0 &&& (255 : Int32))), .unset, .unset, .unset] [(.int (1 : Int32)), (.ref b192)])) rfl rfl (hb hby at_104) t kt)
  have pre222 : ∀ t, Steps p.tables e below (T209.setTop (mkF m 114 #[.val (.int bv), .val (.int fv), .val (.int lv), .val (.int pv), .val (.ref b192), .val (.int (Int32.ofNat ov)), .val (.int (Int32.ofNat nv)), .val (.int vp), .val (.ref ca), .val (.int (d0 &&& (255 : Int32))), .val (.int (d1 &&& (255 : Int32))), .unset, .unset] [(.int (2 : Int32)), (.ref b192)])) t → Steps p.tables e below (s₁.setTop (entryFrame m #[(.int bv), (.int fv), (.int lv), (.int pv)] maxLocals)) t := fun t kt => by
    refine pre221 _ ?_
    show Steps p.tables e below (T209.setTop (mkF m 105 #[.val (.int bv), .val (.int fv), .val (.int lv), .val (.int pv), .val (.ref b192), .val (.int (Int32.ofNat ov)), .val (.int (Int32.ofNat nv)), .val (.int vp), .val (.ref ca), .val (.int (d0 &&& (255 : Int32))), .unset, .unset, .unset] [(.int d1)])) _
    refine XS.sipush X209.here hx rfl (hb hby at_105) ?_
    show Steps p.tables e below (T209.setTop (mkF m 108 #[.val (.int bv), .val (.int fv), .val (.int lv), .val (.int pv), .val (.ref b192), .val (.int (Int32.ofNat ov)), .val (.int (Int32.ofNat nv)), .val (.int vp), .val (.ref ca), .val (.int (d0 &&& (255 : Int32))), .unset, .unset, .unset] [(.int (255 : Int32)), (.int d1)])) _
    refine XS.iand X209.here hx rfl (hb hby at_108) rfl ?_
    show Steps p.tables e below (T209.setTop (mkF m 109 #[.val (.int bv), .val (.int fv), .val (.int lv), .val (.int pv), .val (.ref b192), .val (.int (Int32.ofNat ov)), .val (.int (Int32.ofNat nv)), .val (.int vp), .val (.ref ca), .val (.int (d0 &&& (255 : Int32))), .unset, .unset, .unset] [(.int (d1 &&& (255 : Int32)))])) _
    refine XS.istore X209.here hx rfl (hb hby at_109) rfl (l' := #[.val (.int bv), .val (.int fv), .val (.int lv), .val (.int pv), .val (.ref b192), .val (.int (Int32.ofNat ov)), .val (.int (Int32.ofNat nv)), .val (.int vp), .val (.ref ca), .val (.int (d0 &&& (255 : Int32))), .val (.int (d1 &&& (255 : Int32))), .unset, .unset]) rfl ?_
    show Steps p.tables e below (T209.setTop (mkF m 111 #[.val (.int bv), .val (.int fv), .val (.int lv), .val (.int pv), .val (.ref b192), .val (.int (Int32.ofNat ov)), .val (.int (Int32.ofNat nv)), .val (.int vp), .val (.ref ca), .val (.int (d0 &&& (255 : Int32))), .val (.int (d1 &&& (255 : Int32))), .unset, .unset] [])) _
    refine XS.aload X209.here hx rfl (hb hby at_111) rfl rfl ?_
    show Steps p.tables e below (T209.setTop (mkF m 113 #[.val (.int bv), .val (.int fv), .val (.int lv), .val (.int pv), .val (.ref b192), .val (.int (Int32.ofNat ov)), .val (.int (Int32.ofNat nv)), .val (.int vp), .val (.ref ca), .val (.int (d0 &&& (255 : Int32))), .val (.int (d1 &&& (255 : Int32))), .unset, .unset] [(.ref b192)])) _
    refine XS.iconst X209.here hx rfl (hb hby at_113) ?_
    show Steps p.tables e below (T209.setTop (mkF m 114 #[.val (.int bv), .val (.int fv), .val (.int lv), .val (.int pv), .val (.ref b192), .val (.int (Int32.ofNat ov)), .val (.int (Int32.ofNat nv)), .val (.int vp), .val (.ref ca), .val (.int (d0 &&& (255 : Int32))), .val (.int (d1 &&& (255 : Int32))), .unset, .unset] [(.int (2 : Int32)), (.ref b192)])) _
    exact kt
  have Vo_b192_223 := F209_0
  obtain ⟨cl_b192_223, Ar_b192_223, q_b192_223, S_b192_223, M_b192_223, H_b192_223, G_b192_223⟩ := Vo_b192_223
  have hin223 : ¬ ((2 : Int32) < 0 ∨ cl_b192_223.slots.size ≤ ((2 : Int32)).toNatClampNeg) := inb_of S_b192_223 ⟨by decide, by decide⟩
  have hat223 : cl_b192_223.slots[((2 : Int32)).toNatClampNeg]? = some (.int d2) := H_b192_223.at hin223 rfl
  have pre224 : ∀ t, Steps p.tables e below (T209.setTop (mkF m 115 #[.val (.int bv), .val (.int fv), .val (.int lv), .val (.int pv), .val (.ref b192), .val (.int (Int32.ofNat ov)), .val (.int (Int32.ofNat nv)), .val (.int vp), .val (.ref ca), .val (.int (d0 &&& (255 : Int32))), .val (.int (d1 &&& (255 : Int32))), .unset, .unset] [(.int d2)])) t → Steps p.tables e below (s₁.setTop (entryFrame m #[(.int bv), (.int fv), (.int lv), (.int pv)] maxLocals)) t := fun t kt => pre222 _ (X209.baloadBytes hx (j := (2 : Int32)) (v := (.int d2)) Ar_b192_223.1 (State.isArrayOf_alike hZ.alike Ar_b192_223.2.1) Ar_b192_223.2.2 hin223 hat223 (g := (mkF m 114 #[.val (.int bv), .val (.int fv), .val (.int lv), .val (.int pv), .val (.ref b192), .val (.int (Int32.ofNat ov)), .val (.int (Int32.ofNat nv)), .val (.int vp), .val (.ref ca), .val (.int (d0 &&& (255 : Int32))), .val (.int (d1 &&& (255 : Int32))), .unset, .unset] [(.int (2 : Int32)), (.ref b192)])) rfl rfl (hb hby at_114) t kt)
  have pre225 : ∀ t, Steps p.tables e below (T209.setTop (mkF m 124 #[.val (.int bv), .val (.int fv), .val (.int lv), .val (.int pv), .val (.ref b192), .val (.int (Int32.ofNat ov)), .val (.int (Int32.ofNat nv)), .val (.int vp), .val (.ref ca), .val (.int (d0 &&& (255 : Int32))), .val (.int (d1 &&& (255 : Int32))), .val (.int (d2 &&& (255 : Int32))), .unset] [(.int (3 : Int32)), (.ref b192)])) t → Steps p.tables e below (s₁.setTop (entryFrame m #[(.int bv), (.int fv), (.int lv), (.int pv)] maxLocals)) t := fun t kt => by
    refine pre224 _ ?_
    show Steps p.tables e below (T209.setTop (mkF m 115 #[.val (.int bv), .val (.int fv), .val (.int lv), .val (.int pv), .val (.ref b192), .val (.int (Int32.ofNat ov)), .val (.int (Int32.ofNat nv)), .val (.int vp), .val (.ref ca), .val (.int (d0 &&& (255 : Int32))), .val (.int (d1 &&& (255 : Int32))), .unset, .unset] [(.int d2)])) _
    refine XS.sipush X209.here hx rfl (hb hby at_115) ?_
    show Steps p.tables e below (T209.setTop (mkF m 118 #[.val (.int bv), .val (.int fv), .val (.int lv), .val (.int pv), .val (.ref b192), .val (.int (Int32.ofNat ov)), .val (.int (Int32.ofNat nv)), .val (.int vp), .val (.ref ca), .val (.int (d0 &&& (255 : Int32))), .val (.int (d1 &&& (255 : Int32))), .unset, .unset] [(.int (255 : Int32)), (.int d2)])) _
    refine XS.iand X209.here hx rfl (hb hby at_118) rfl ?_
    show Steps p.tables e below (T209.setTop (mkF m 119 #[.val (.int bv), .val (.int fv), .val (.int lv), .val (.int pv), .val (.ref b192), .val (.int (Int32.ofNat ov)), .val (.int (Int32.ofNat nv)), .val (.int vp), .val (.ref ca), .val (.int (d0 &&& (255 : Int32))), .val (.int (d1 &&& (255 : Int32))), .unset, .unset] [(.int (d2 &&& (255 : Int32)))])) _
    refine XS.istore X209.here hx rfl (hb hby at_119) rfl (l' := #[.val (.int bv), .val (.int fv), .val (.int lv), .val (.int pv), .val (.ref b192), .val (.int (Int32.ofNat ov)), .val (.int (Int32.ofNat nv)), .val (.int vp), .val (.ref ca), .val (.int (d0 &&& (255 : Int32))), .val (.int (d1 &&& (255 : Int32))), .val (.int (d2 &&& (255 : Int32))), .unset]) rfl ?_
    show Steps p.tables e below (T209.setTop (mkF m 121 #[.val (.int bv), .val (.int fv), .val (.int lv), .val (.int pv), .val (.ref b192), .val (.int (Int32.ofNat ov)), .val (.int (Int32.ofNat nv)), .val (.int vp), .val (.ref ca), .val (.int (d0 &&& (255 : Int32))), .val (.int (d1 &&& (255 : Int32))), .val (.int (d2 &&& (255 : Int32))), .unset] [])) _
    refine XS.aload X209.here hx rfl (hb hby at_121) rfl rfl ?_
    show Steps p.tables e below (T209.setTop (mkF m 123 #[.val (.int bv), .val (.int fv), .val (.int lv), .val (.int pv), .val (.ref b192), .val (.int (Int32.ofNat ov)), .val (.int (Int32.ofNat nv)), .val (.int vp), .val (.ref ca), .val (.int (d0 &&& (255 : Int32))), .val (.int (d1 &&& (255 : Int32))), .val (.int (d2 &&& (255 : Int32))), .unset] [(.ref b192)])) _
    refine XS.iconst X209.here hx rfl (hb hby at_123) ?_
    show Steps p.tables e below (T209.setTop (mkF m 124 #[.val (.int bv), .val (.int fv), .val (.int lv), .val (.int pv), .val (.ref b192), .val (.int (Int32.ofNat ov)), .val (.int (Int32.ofNat nv)), .val (.int vp), .val (.ref ca), .val (.int (d0 &&& (255 : Int32))), .val (.int (d1 &&& (255 : Int32))), .val (.int (d2 &&& (255 : Int32))), .unset] [(.int (3 : Int32)), (.ref b192)])) _
    exact kt
  have Vo_b192_226 := F209_0
  obtain ⟨cl_b192_226, Ar_b192_226, q_b192_226, S_b192_226, M_b192_226, H_b192_226, G_b192_226⟩ := Vo_b192_226
  have hin226 : ¬ ((3 : Int32) < 0 ∨ cl_b192_226.slots.size ≤ ((3 : Int32)).toNatClampNeg) := inb_of S_b192_226 ⟨by decide, by decide⟩
  have hat226 : cl_b192_226.slots[((3 : Int32)).toNatClampNeg]? = some (.int d3) := H_b192_226.at hin226 rfl
  have pre227 : ∀ t, Steps p.tables e below (T209.setTop (mkF m 125 #[.val (.int bv), .val (.int fv), .val (.int lv), .val (.int pv), .val (.ref b192), .val (.int (Int32.ofNat ov)), .val (.int (Int32.ofNat nv)), .val (.int vp), .val (.ref ca), .val (.int (d0 &&& (255 : Int32))), .val (.int (d1 &&& (255 : Int32))), .val (.int (d2 &&& (255 : Int32))), .unset] [(.int d3)])) t → Steps p.tables e below (s₁.setTop (entryFrame m #[(.int bv), (.int fv), (.int lv), (.int pv)] maxLocals)) t := fun t kt => pre225 _ (X209.baloadBytes hx (j := (3 : Int32)) (v := (.int d3)) Ar_b192_226.1 (State.isArrayOf_alike hZ.alike Ar_b192_226.2.1) Ar_b192_226.2.2 hin226 hat226 (g := (mkF m 124 #[.val (.int bv), .val (.int fv), .val (.int lv), .val (.int pv), .val (.ref b192), .val (.int (Int32.ofNat ov)), .val (.int (Int32.ofNat nv)), .val (.int vp), .val (.ref ca), .val (.int (d0 &&& (255 : Int32))), .val (.int (d1 &&& (255 : Int32))), .val (.int (d2 &&& (255 : Int32))), .unset] [(.int (3 : Int32)), (.ref b192)])) rfl rfl (hb hby at_124) t kt)
  have pre228 : ∀ t, Steps p.tables e below (T209.setTop (mkF m 131 #[.val (.int bv), .val (.int fv), .val (.int lv), .val (.int pv), .val (.ref b192), .val (.int (Int32.ofNat ov)), .val (.int (Int32.ofNat nv)), .val (.int vp), .val (.ref ca), .val (.int (d0 &&& (255 : Int32))), .val (.int (d1 &&& (255 : Int32))), .val (.int (d2 &&& (255 : Int32))), .val (.int (d3 &&& (255 : Int32)))] [])) t → Steps p.tables e below (s₁.setTop (entryFrame m #[(.int bv), (.int fv), (.int lv), (.int pv)] maxLocals)) t := fun t kt => by
    refine pre227 _ ?_
    show Steps p.tables e below (T209.setTop (mkF m 125 #[.val (.int bv), .val (.int fv), .val (.int lv), .val (.int pv), .val (.ref b192), .val (.int (Int32.ofNat ov)), .val (.int (Int32.ofNat nv)), .val (.int vp), .val (.ref ca), .val (.int (d0 &&& (255 : Int32))), .val (.int (d1 &&& (255 : Int32))), .val (.int (d2 &&& (255 : Int32))), .unset] [(.int d3)])) _
    refine XS.sipush X209.here hx rfl (hb hby at_125) ?_
    show Steps p.tables e below (T209.setTop (mkF m 128 #[.val (.int bv), .val (.int fv), .val (.int lv), .val (.int pv), .val (.ref b192), .val (.int (Int32.ofNat ov)), .val (.int (Int32.ofNat nv)), .val (.int vp), .val (.ref ca), .val (.int (d0 &&& (255 : Int32))), .val (.int (d1 &&& (255 : Int32))), .val (.int (d2 &&& (255 : Int32))), .unset] [(.int (255 : Int32)), (.int d3)])) _
    refine XS.iand X209.here hx rfl (hb hby at_128) rfl ?_
    show Steps p.tables e below (T209.setTop (mkF m 129 #[.val (.int bv), .val (.int fv), .val (.int lv), .val (.int pv), .val (.ref b192), .val (.int (Int32.ofNat ov)), .val (.int (Int32.ofNat nv)), .val (.int vp), .val (.ref ca), .val (.int (d0 &&& (255 : Int32))), .val (.int (d1 &&& (255 : Int32))), .val (.int (d2 &&& (255 : Int32))), .unset] [(.int (d3 &&& (255 : Int32)))])) _
    refine XS.istore X209.here hx rfl (hb hby at_129) rfl (l' := #[.val (.int bv), .val (.int fv), .val (.int lv), .val (.int pv), .val (.ref b192), .val (.int (Int32.ofNat ov)), .val (.int (Int32.ofNat nv)), .val (.int vp), .val (.ref ca), .val (.int (d0 &&& (255 : Int32))), .val (.int (d1 &&& (255 : Int32))), .val (.int (d2 &&& (255 : Int32))), .val (.int (d3 &&& (255 : Int32)))]) rfl ?_
    show Steps p.tables e below (T209.setTop (mkF m 131 #[.val (.int bv), .val (.int fv), .val (.int lv), .val (.int pv), .val (.ref b192), .val (.int (Int32.ofNat ov)), .val (.int (Int32.ofNat nv)), .val (.int vp), .val (.ref ca), .val (.int (d0 &&& (255 : Int32))), .val (.int (d1 &&& (255 : Int32))), .val (.int (d2 &&& (255 : Int32))), .val (.int (d3 &&& (255 : Int32)))] [])) _
    exact kt
  obtain ⟨u0, e_u0⟩ : ∃ z : Int32, z = (d0 &&& (255 : Int32)) := ⟨_, rfl⟩
  have pre229 : ∀ t, Steps p.tables e below (T209.setTop (mkF m 131 #[.val (.int bv), .val (.int fv), .val (.int lv), .val (.int pv), .val (.ref b192), .val (.int (Int32.ofNat ov)), .val (.int (Int32.ofNat nv)), .val (.int vp), .val (.ref ca), .val (.int u0), .val (.int (d1 &&& (255 : Int32))), .val (.int (d2 &&& (255 : Int32))), .val (.int (d3 &&& (255 : Int32)))] [])) t → Steps p.tables e below (s₁.setTop (entryFrame m #[(.int bv), (.int fv), (.int lv), (.int pv)] maxLocals)) t := by rw [e_u0]; exact pre228
  have hu0 := own_b d0
  rw [← e_u0] at hu0
  obtain ⟨u1, e_u1⟩ : ∃ z : Int32, z = (d1 &&& (255 : Int32)) := ⟨_, rfl⟩
  have pre230 : ∀ t, Steps p.tables e below (T209.setTop (mkF m 131 #[.val (.int bv), .val (.int fv), .val (.int lv), .val (.int pv), .val (.ref b192), .val (.int (Int32.ofNat ov)), .val (.int (Int32.ofNat nv)), .val (.int vp), .val (.ref ca), .val (.int u0), .val (.int u1), .val (.int (d2 &&& (255 : Int32))), .val (.int (d3 &&& (255 : Int32)))] [])) t → Steps p.tables e below (s₁.setTop (entryFrame m #[(.int bv), (.int fv), (.int lv), (.int pv)] maxLocals)) t := by rw [e_u1]; exact pre229
  have hu1 := own_b d1
  rw [← e_u1] at hu1
  obtain ⟨u2, e_u2⟩ : ∃ z : Int32, z = (d2 &&& (255 : Int32)) := ⟨_, rfl⟩
  have pre231 : ∀ t, Steps p.tables e below (T209.setTop (mkF m 131 #[.val (.int bv), .val (.int fv), .val (.int lv), .val (.int pv), .val (.ref b192), .val (.int (Int32.ofNat ov)), .val (.int (Int32.ofNat nv)), .val (.int vp), .val (.ref ca), .val (.int u0), .val (.int u1), .val (.int u2), .val (.int (d3 &&& (255 : Int32)))] [])) t → Steps p.tables e below (s₁.setTop (entryFrame m #[(.int bv), (.int fv), (.int lv), (.int pv)] maxLocals)) t := by rw [e_u2]; exact pre230
  have hu2 := own_b d2
  rw [← e_u2] at hu2
  obtain ⟨u3, e_u3⟩ : ∃ z : Int32, z = (d3 &&& (255 : Int32)) := ⟨_, rfl⟩
  have pre232 : ∀ t, Steps p.tables e below (T209.setTop (mkF m 131 #[.val (.int bv), .val (.int fv), .val (.int lv), .val (.int pv), .val (.ref b192), .val (.int (Int32.ofNat ov)), .val (.int (Int32.ofNat nv)), .val (.int vp), .val (.ref ca), .val (.int u0), .val (.int u1), .val (.int u2), .val (.int u3)] [])) t → Steps p.tables e below (s₁.setTop (entryFrame m #[(.int bv), (.int fv), (.int lv), (.int pv)] maxLocals)) t := by rw [e_u3]; exact pre231
  have hu3 := own_b d3
  rw [← e_u3] at hu3
  have nn_of : ∀ x : Int32, ¬ x < 0 → 0 ≤ x.toInt := fun x q => by
    rw [Int32.lt_iff_toInt_lt] at q
    have : (0 : Int32).toInt = 0 := by decide
    omega
  have pre233 : ∀ t, Steps p.tables e below (T209.setTop (mkF m 135 #[.val (.int bv), .val (.int fv), .val (.int lv), .val (.int pv), .val (.ref b192), .val (.int (Int32.ofNat ov)), .val (.int (Int32.ofNat nv)), .val (.int vp), .val (.ref ca), .val (.int u0), .val (.int u1), .val (.int u2), .val (.int u3)] [(.int vp), (.ref ca)])) t → Steps p.tables e below (s₁.setTop (entryFrame m #[(.int bv), (.int fv), (.int lv), (.int pv)] maxLocals)) t := fun t kt => by
    refine pre232 _ ?_
    show Steps p.tables e below (T209.setTop (mkF m 131 #[.val (.int bv), .val (.int fv), .val (.int lv), .val (.int pv), .val (.ref b192), .val (.int (Int32.ofNat ov)), .val (.int (Int32.ofNat nv)), .val (.int vp), .val (.ref ca), .val (.int u0), .val (.int u1), .val (.int u2), .val (.int u3)] [])) _
    refine XS.aload X209.here hx rfl (hb hby at_131) rfl rfl ?_
    show Steps p.tables e below (T209.setTop (mkF m 133 #[.val (.int bv), .val (.int fv), .val (.int lv), .val (.int pv), .val (.ref b192), .val (.int (Int32.ofNat ov)), .val (.int (Int32.ofNat nv)), .val (.int vp), .val (.ref ca), .val (.int u0), .val (.int u1), .val (.int u2), .val (.int u3)] [(.ref ca)])) _
    refine XS.iload X209.here hx rfl (hb hby at_133) rfl ?_
    show Steps p.tables e below (T209.setTop (mkF m 135 #[.val (.int bv), .val (.int fv), .val (.int lv), .val (.int pv), .val (.ref b192), .val (.int (Int32.ofNat ov)), .val (.int (Int32.ofNat nv)), .val (.int vp), .val (.ref ca), .val (.int u0), .val (.int u1), .val (.int u2), .val (.int u3)] [(.int vp), (.ref ca)])) _
    exact kt
  have Vo_ca_234 := Vc209
  obtain ⟨cl_ca_234, Ar_ca_234, q_ca_234, S_ca_234, M_ca_234, H_ca_234, G_ca_234⟩ := Vo_ca_234
  have hin234 : ¬ (vp < 0 ∨ cl_ca_234.slots.size ≤ (vp).toNatClampNeg) := inb_of S_ca_234 ⟨hvp.1, hvp.2.1⟩
  have hat234 : cl_ca_234.slots[(vp).toNatClampNeg]? = some (.int (own_F (own_D d0 d1 d2 d3) ov nv (vp).toNatClampNeg)) := H_ca_234.at (inb_of S_ca_234 ⟨hvp.1, hvp.2.1⟩) (own_L_at _ _ hvp.2.2)
  have pre235 : ∀ t, Steps p.tables e below (T209.setTop (mkF m 136 #[.val (.int bv), .val (.int fv), .val (.int lv), .val (.int pv), .val (.ref b192), .val (.int (Int32.ofNat ov)), .val (.int (Int32.ofNat nv)), .val (.int vp), .val (.ref ca), .val (.int u0), .val (.int u1), .val (.int u2), .val (.int u3)] [(.int (own_F (own_D d0 d1 d2 d3) ov nv (vp).toNatClampNeg))])) t → Steps p.tables e below (s₁.setTop (entryFrame m #[(.int bv), (.int fv), (.int lv), (.int pv)] maxLocals)) t := fun t kt => pre233 _ (X209.iaload hx (j := vp) (v := (.int (own_F (own_D d0 d1 d2 d3) ov nv (vp).toNatClampNeg))) Ar_ca_234.1 (State.isArrayOf_alike hZ.alike Ar_ca_234.2.1) Ar_ca_234.2.2 hin234 hat234 (g := (mkF m 135 #[.val (.int bv), .val (.int fv), .val (.int lv), .val (.int pv), .val (.ref b192), .val (.int (Int32.ofNat ov)), .val (.int (Int32.ofNat nv)), .val (.int vp), .val (.ref ca), .val (.int u0), .val (.int u1), .val (.int u2), .val (.int u3)] [(.int vp), (.ref ca)])) rfl rfl (hb hby at_135) t kt)
  have pre236 : ∀ t, Steps p.tables e below (T209.setTop (mkF m 144 #[.val (.int bv), .val (.int fv), .val (.int lv), .val (.int pv), .val (.ref b192), .val (.int (Int32.ofNat ov)), .val (.int (Int32.ofNat nv)), .val (.int vp), .val (.ref ca), .val (.int u0), .val (.int u1), .val (.int u2), .val (.int u3)] [(.int vp), (.int (Int32.ofNat nv)), (.int (Int32.ofNat ov)), (.ref b192), (.int (own_F (own_D d0 d1 d2 d3) ov nv (vp).toNatClampNeg))])) t → Steps p.tables e below (s₁.setTop (entryFrame m #[(.int bv), (.int fv), (.int lv), (.int pv)] maxLocals)) t := fun t kt => by
    refine pre235 _ ?_
    show Steps p.tables e below (T209.setTop (mkF m 136 #[.val (.int bv), .val (.int fv), .val (.int lv), .val (.int pv), .val (.ref b192), .val (.int (Int32.ofNat ov)), .val (.int (Int32.ofNat nv)), .val (.int vp), .val (.ref ca), .val (.int u0), .val (.int u1), .val (.int u2), .val (.int u3)] [(.int (own_F (own_D d0 d1 d2 d3) ov nv (vp).toNatClampNeg))])) _
    refine XS.aload X209.here hx rfl (hb hby at_136) rfl rfl ?_
    show Steps p.tables e below (T209.setTop (mkF m 138 #[.val (.int bv), .val (.int fv), .val (.int lv), .val (.int pv), .val (.ref b192), .val (.int (Int32.ofNat ov)), .val (.int (Int32.ofNat nv)), .val (.int vp), .val (.ref ca), .val (.int u0), .val (.int u1), .val (.int u2), .val (.int u3)] [(.ref b192), (.int (own_F (own_D d0 d1 d2 d3) ov nv (vp).toNatClampNeg))])) _
    refine XS.iload X209.here hx rfl (hb hby at_138) rfl ?_
    show Steps p.tables e below (T209.setTop (mkF m 140 #[.val (.int bv), .val (.int fv), .val (.int lv), .val (.int pv), .val (.ref b192), .val (.int (Int32.ofNat ov)), .val (.int (Int32.ofNat nv)), .val (.int vp), .val (.ref ca), .val (.int u0), .val (.int u1), .val (.int u2), .val (.int u3)] [(.int (Int32.ofNat ov)), (.ref b192), (.int (own_F (own_D d0 d1 d2 d3) ov nv (vp).toNatClampNeg))])) _
    refine XS.iload X209.here hx rfl (hb hby at_140) rfl ?_
    show Steps p.tables e below (T209.setTop (mkF m 142 #[.val (.int bv), .val (.int fv), .val (.int lv), .val (.int pv), .val (.ref b192), .val (.int (Int32.ofNat ov)), .val (.int (Int32.ofNat nv)), .val (.int vp), .val (.ref ca), .val (.int u0), .val (.int u1), .val (.int u2), .val (.int u3)] [(.int (Int32.ofNat nv)), (.int (Int32.ofNat ov)), (.ref b192), (.int (own_F (own_D d0 d1 d2 d3) ov nv (vp).toNatClampNeg))])) _
    refine XS.iload X209.here hx rfl (hb hby at_142) rfl ?_
    show Steps p.tables e below (T209.setTop (mkF m 144 #[.val (.int bv), .val (.int fv), .val (.int lv), .val (.int pv), .val (.ref b192), .val (.int (Int32.ofNat ov)), .val (.int (Int32.ofNat nv)), .val (.int vp), .val (.ref ca), .val (.int u0), .val (.int u1), .val (.int u2), .val (.int u3)] [(.int vp), (.int (Int32.ofNat nv)), (.int (Int32.ofNat ov)), (.ref b192), (.int (own_F (own_D d0 d1 d2 d3) ov nv (vp).toNatClampNeg))])) _
    exact kt
  obtain ⟨_, _, ⟨T237, L237, k237, n237⟩, -, X237, ⟨Lc237, hQ237, l237, y237, z237⟩, st237⟩ := Jvm.LawKit.callS X209 hx (y := (⟨"com/example/leafweight/leafweight/BlockCodeCountPinLaw", "ref", "([BIII)I"⟩ : MethodName)) hown (mvT hZ (hw _ (List.mem_of_getElem? (i := 7) rfl))) (mvT hZ (hw _ (List.mem_of_getElem? (i := 8) rfl))) (mvT hZ (hw _ (List.mem_of_getElem? (i := 9) rfl))) (mvT hZ (hw _ (List.mem_of_getElem? (i := 10) rfl))) (by decide) (backOf (W := 1) (rm2 l Z aZ hw [] b192 (Int32.ofNat ov) (Int32.ofNat nv) vp k192 d0 d1 d2 d3 T209.heap n0 Zs209 F209_0) hZ (hw _ (List.mem_of_getElem? (i := 10) rfl)) (hw _ (List.mem_of_getElem? (i := 9) rfl)) (by decide) (by decide)) (g := (mkF m 144 #[.val (.int bv), .val (.int fv), .val (.int lv), .val (.int pv), .val (.ref b192), .val (.int (Int32.ofNat ov)), .val (.int (Int32.ofNat nv)), .val (.int vp), .val (.ref ca), .val (.int u0), .val (.int u1), .val (.int u2), .val (.int u3)] [(.int vp), (.int (Int32.ofNat nv)), (.int (Int32.ofNat ov)), (.ref b192), (.int (own_F (own_D d0 d1 d2 d3) ov nv (vp).toNatClampNeg))])) rfl (by rw [hml]; rfl) (argsL := [(.ref b192), (.int (Int32.ofNat ov)), (.int (Int32.ofNat nv)), (.int vp)]) (rest := [(.int (own_F (own_D d0 d1 d2 d3) ov nv (vp).toNatClampNeg))]) (lenOf pd_1 rfl) rfl (by show 2 * 0 + _ ≤ _; exact Nat.le_of_eq rfl) (hb hby at_144) (fun _ _ => ⟨rfl, rfl, (by decide : 2 + 0 ≤ _), (by decide : 260 + 0 ≤ _)⟩)
  dsimp only [Pt.U, Pt.locs, Pt.cells, Pt.slots] at X237 l237 y237 z237 st237 hQ237
  subst l237 y237 z237
  obtain ⟨rfl, N237q, e237⟩ := hQ237
  have N237 := Fr.app N209 N237q
  have pre237 : ∀ t, Steps p.tables e below (T237.setTop (mkF m 147 #[.val (.int bv), .val (.int fv), .val (.int lv), .val (.int pv), .val (.ref b192), .val (.int (Int32.ofNat ov)), .val (.int (Int32.ofNat nv)), .val (.int vp), .val (.ref ca), .val (.int u0), .val (.int u1), .val (.int u2), .val (.int u3)] [(.int (f2 (Int32.ofNat ov) (Int32.ofNat nv) vp d0 d1 d2 d3)), (.int (own_F (own_D d0 d1 d2 d3) ov nv (vp).toNatClampNeg))])) t → Steps p.tables e below (s₁.setTop (entryFrame m #[(.int bv), (.int fv), (.int lv), (.int pv)] maxLocals)) t := fun t kt => pre236 _ (st237 t kt)
  have pre239 : ∀ t, Steps p.tables e below (T237.setTop (mkF m 150 #[.val (.int bv), .val (.int fv), .val (.int lv), .val (.int pv), .val (.ref b192), .val (.int (Int32.ofNat ov)), .val (.int (Int32.ofNat nv)), .val (.int vp), .val (.ref ca), .val (.int u0), .val (.int u1), .val (.int u2), .val (.int u3)] [])) t → Steps p.tables e below (s₁.setTop (entryFrame m #[(.int bv), (.int fv), (.int lv), (.int pv)] maxLocals)) t := fun t kt => by
    refine pre237 _ ?_
    show Steps p.tables e below (T237.setTop (mkF m 147 #[.val (.int bv), .val (.int fv), .val (.int lv), .val (.int pv), .val (.ref b192), .val (.int (Int32.ofNat ov)), .val (.int (Int32.ofNat nv)), .val (.int vp), .val (.ref ca), .val (.int u0), .val (.int u1), .val (.int u2), .val (.int u3)] [(.int (f2 (Int32.ofNat ov) (Int32.ofNat nv) vp d0 d1 d2 d3)), (.int (own_F (own_D d0 d1 d2 d3) ov nv (vp).toNatClampNeg))])) _
    refine XS.icmpNo X237.here hx rfl (hb hby at_147) rfl (teq (own_law ov nv hon vp d0 d1 d2 d3 (nn_of _ hvp.1))).2 ?_
    show Steps p.tables e below (T237.setTop (mkF m 150 #[.val (.int bv), .val (.int fv), .val (.int lv), .val (.int pv), .val (.ref b192), .val (.int (Int32.ofNat ov)), .val (.int (Int32.ofNat nv)), .val (.int vp), .val (.ref ca), .val (.int u0), .val (.int u1), .val (.int u2), .val (.int u3)] [])) _
    exact kt
  have pre240 : ∀ t, Steps p.tables e below (T237.setTop (mkF m 154 #[.val (.int bv), .val (.int fv), .val (.int lv), .val (.int pv), .val (.ref b192), .val (.int (Int32.ofNat ov)), .val (.int (Int32.ofNat nv)), .val (.int vp), .val (.ref ca), .val (.int u0), .val (.int u1), .val (.int u2), .val (.int u3)] [(.int u0), (.ref ca)])) t → Steps p.tables e below (s₁.setTop (entryFrame m #[(.int bv), (.int fv), (.int lv), (.int pv)] maxLocals)) t := fun t kt => by
    refine pre239 _ ?_
    show Steps p.tables e below (T237.setTop (mkF m 150 #[.val (.int bv), .val (.int fv), .val (.int lv), .val (.int pv), .val (.ref b192), .val (.int (Int32.ofNat ov)), .val (.int (Int32.ofNat nv)), .val (.int vp), .val (.ref ca), .val (.int u0), .val (.int u1), .val (.int u2), .val (.int u3)] [])) _
    refine XS.aload X237.here hx rfl (hb hby at_150) rfl rfl ?_
    show Steps p.tables e below (T237.setTop (mkF m 152 #[.val (.int bv), .val (.int fv), .val (.int lv), .val (.int pv), .val (.ref b192), .val (.int (Int32.ofNat ov)), .val (.int (Int32.ofNat nv)), .val (.int vp), .val (.ref ca), .val (.int u0), .val (.int u1), .val (.int u2), .val (.int u3)] [(.ref ca)])) _
    refine XS.iload X237.here hx rfl (hb hby at_152) rfl ?_
    show Steps p.tables e below (T237.setTop (mkF m 154 #[.val (.int bv), .val (.int fv), .val (.int lv), .val (.int pv), .val (.ref b192), .val (.int (Int32.ofNat ov)), .val (.int (Int32.ofNat nv)), .val (.int vp), .val (.ref ca), .val (.int u0), .val (.int u1), .val (.int u2), .val (.int u3)] [(.int u0), (.ref ca)])) _
    exact kt
  have Vo_ca_241 := Vc209
  obtain ⟨cl_ca_241, Ar_ca_241, q_ca_241, S_ca_241, M_ca_241, H_ca_241, G_ca_241⟩ := Vo_ca_241
  have hin241 : ¬ (u0 < 0 ∨ cl_ca_241.slots.size ≤ (u0).toNatClampNeg) := inb_of S_ca_241 ⟨hu0.1, hu0.2.1⟩
  have hat241 : cl_ca_241.slots[(u0).toNatClampNeg]? = some (.int (own_F (own_D d0 d1 d2 d3) ov nv (u0).toNatClampNeg)) := H_ca_241.at (inb_of S_ca_241 ⟨hu0.1, hu0.2.1⟩) (own_L_at _ _ hu0.2.2)
  have pre242 : ∀ t, Steps p.tables e below (T237.setTop (mkF m 155 #[.val (.int bv), .val (.int fv), .val (.int lv), .val (.int pv), .val (.ref b192), .val (.int (Int32.ofNat ov)), .val (.int (Int32.ofNat nv)), .val (.int vp), .val (.ref ca), .val (.int u0), .val (.int u1), .val (.int u2), .val (.int u3)] [(.int (own_F (own_D d0 d1 d2 d3) ov nv (u0).toNatClampNeg))])) t → Steps p.tables e below (s₁.setTop (entryFrame m #[(.int bv), (.int fv), (.int lv), (.int pv)] maxLocals)) t := fun t kt => pre240 _ (X237.iaload hx (j := u0) (v := (.int (own_F (own_D d0 d1 d2 d3) ov nv (u0).toNatClampNeg))) (by rw [e237]; exact Ar_ca_241.1) (State.isArrayOf_alike hZ.alike Ar_ca_241.2.1) Ar_ca_241.2.2 hin241 hat241 (g := (mkF m 154 #[.val (.int bv), .val (.int fv), .val (.int lv), .val (.int pv), .val (.ref b192), .val (.int (Int32.ofNat ov)), .val (.int (Int32.ofNat nv)), .val (.int vp), .val (.ref ca), .val (.int u0), .val (.int u1), .val (.int u2), .val (.int u3)] [(.int u0), (.ref ca)])) rfl rfl (hb hby at_154) t kt)
  have pre243 : ∀ t, Steps p.tables e below (T237.setTop (mkF m 163 #[.val (.int bv), .val (.int fv), .val (.int lv), .val (.int pv), .val (.ref b192), .val (.int (Int32.ofNat ov)), .val (.int (Int32.ofNat nv)), .val (.int vp), .val (.ref ca), .val (.int u0), .val (.int u1), .val (.int u2), .val (.int u3)] [(.int u0), (.int (Int32.ofNat nv)), (.int (Int32.ofNat ov)), (.ref b192), (.int (own_F (own_D d0 d1 d2 d3) ov nv (u0).toNatClampNeg))])) t → Steps p.tables e below (s₁.setTop (entryFrame m #[(.int bv), (.int fv), (.int lv), (.int pv)] maxLocals)) t := fun t kt => by
    refine pre242 _ ?_
    show Steps p.tables e below (T237.setTop (mkF m 155 #[.val (.int bv), .val (.int fv), .val (.int lv), .val (.int pv), .val (.ref b192), .val (.int (Int32.ofNat ov)), .val (.int (Int32.ofNat nv)), .val (.int vp), .val (.ref ca), .val (.int u0), .val (.int u1), .val (.int u2), .val (.int u3)] [(.int (own_F (own_D d0 d1 d2 d3) ov nv (u0).toNatClampNeg))])) _
    refine XS.aload X237.here hx rfl (hb hby at_155) rfl rfl ?_
    show Steps p.tables e below (T237.setTop (mkF m 157 #[.val (.int bv), .val (.int fv), .val (.int lv), .val (.int pv), .val (.ref b192), .val (.int (Int32.ofNat ov)), .val (.int (Int32.ofNat nv)), .val (.int vp), .val (.ref ca), .val (.int u0), .val (.int u1), .val (.int u2), .val (.int u3)] [(.ref b192), (.int (own_F (own_D d0 d1 d2 d3) ov nv (u0).toNatClampNeg))])) _
    refine XS.iload X237.here hx rfl (hb hby at_157) rfl ?_
    show Steps p.tables e below (T237.setTop (mkF m 159 #[.val (.int bv), .val (.int fv), .val (.int lv), .val (.int pv), .val (.ref b192), .val (.int (Int32.ofNat ov)), .val (.int (Int32.ofNat nv)), .val (.int vp), .val (.ref ca), .val (.int u0), .val (.int u1), .val (.int u2), .val (.int u3)] [(.int (Int32.ofNat ov)), (.ref b192), (.int (own_F (own_D d0 d1 d2 d3) ov nv (u0).toNatClampNeg))])) _
    refine XS.iload X237.here hx rfl (hb hby at_159) rfl ?_
    show Steps p.tables e below (T237.setTop (mkF m 161 #[.val (.int bv), .val (.int fv), .val (.int lv), .val (.int pv), .val (.ref b192), .val (.int (Int32.ofNat ov)), .val (.int (Int32.ofNat nv)), .val (.int vp), .val (.ref ca), .val (.int u0), .val (.int u1), .val (.int u2), .val (.int u3)] [(.int (Int32.ofNat nv)), (.int (Int32.ofNat ov)), (.ref b192), (.int (own_F (own_D d0 d1 d2 d3) ov nv (u0).toNatClampNeg))])) _
    refine XS.iload X237.here hx rfl (hb hby at_161) rfl ?_
    show Steps p.tables e below (T237.setTop (mkF m 163 #[.val (.int bv), .val (.int fv), .val (.int lv), .val (.int pv), .val (.ref b192), .val (.int (Int32.ofNat ov)), .val (.int (Int32.ofNat nv)), .val (.int vp), .val (.ref ca), .val (.int u0), .val (.int u1), .val (.int u2), .val (.int u3)] [(.int u0), (.int (Int32.ofNat nv)), (.int (Int32.ofNat ov)), (.ref b192), (.int (own_F (own_D d0 d1 d2 d3) ov nv (u0).toNatClampNeg))])) _
    exact kt
  obtain ⟨_, _, ⟨T244, L244, k244, n244⟩, -, X244, ⟨Lc244, hQ244, l244, y244, z244⟩, st244⟩ := Jvm.LawKit.callS X237 hx (y := (⟨"com/example/leafweight/leafweight/BlockCodeCountPinLaw", "ref", "([BIII)I"⟩ : MethodName)) hown (mvT hZ (hw _ (List.mem_of_getElem? (i := 7) rfl))) (mvT hZ (hw _ (List.mem_of_getElem? (i := 8) rfl))) (mvT hZ (hw _ (List.mem_of_getElem? (i := 9) rfl))) (mvT hZ (hw _ (List.mem_of_getElem? (i := 10) rfl))) (by decide) (backOf (W := 1) (rm2 l Z aZ hw [] b192 (Int32.ofNat ov) (Int32.ofNat nv) u0 k192 d0 d1 d2 d3 T209.heap n0 Zs209 F209_0) hZ (hw _ (List.mem_of_getElem? (i := 10) rfl)) (hw _ (List.mem_of_getElem? (i := 9) rfl)) (by decide) (by decide)) (g := (mkF m 163 #[.val (.int bv), .val (.int fv), .val (.int lv), .val (.int pv), .val (.ref b192), .val (.int (Int32.ofNat ov)), .val (.int (Int32.ofNat nv)), .val (.int vp), .val (.ref ca), .val (.int u0), .val (.int u1), .val (.int u2), .val (.int u3)] [(.int u0), (.int (Int32.ofNat nv)), (.int (Int32.ofNat ov)), (.ref b192), (.int (own_F (own_D d0 d1 d2 d3) ov nv (u0).toNatClampNeg))])) rfl (by rw [hml]; rfl) (argsL := [(.ref b192), (.int (Int32.ofNat ov)), (.int (Int32.ofNat nv)), (.int u0)]) (rest := [(.int (own_F (own_D d0 d1 d2 d3) ov nv (u0).toNatClampNeg))]) (lenOf pd_1 rfl) rfl (by show 2 * 0 + _ ≤ _; exact Nat.le_of_eq rfl) (hb hby at_163) (fun _ _ => ⟨rfl, e237, (by decide : 2 + 0 ≤ _), (by decide : 260 + 0 ≤ _)⟩)
  dsimp only [Pt.U, Pt.locs, Pt.cells, Pt.slots] at X244 l244 y244 z244 st244 hQ244
  subst l244 y244 z244
  obtain ⟨rfl, N244q, e244⟩ := hQ244
  have N244 := Fr.app N237 N244q
  have pre244 : ∀ t, Steps p.tables e below (T244.setTop (mkF m 166 #[.val (.int bv), .val (.int fv), .val (.int lv), .val (.int pv), .val (.ref b192), .val (.int (Int32.ofNat ov)), .val (.int (Int32.ofNat nv)), .val (.int vp), .val (.ref ca), .val (.int u0), .val (.int u1), .val (.int u2), .val (.int u3)] [(.int (f2 (Int32.ofNat ov) (Int32.ofNat nv) u0 d0 d1 d2 d3)), (.int (own_F (own_D d0 d1 d2 d3) ov nv (u0).toNatClampNeg))])) t → Steps p.tables e below (s₁.setTop (entryFrame m #[(.int bv), (.int fv), (.int lv), (.int pv)] maxLocals)) t := fun t kt => pre243 _ (st244 t kt)
  have pre246 : ∀ t, Steps p.tables e below (T244.setTop (mkF m 169 #[.val (.int bv), .val (.int fv), .val (.int lv), .val (.int pv), .val (.ref b192), .val (.int (Int32.ofNat ov)), .val (.int (Int32.ofNat nv)), .val (.int vp), .val (.ref ca), .val (.int u0), .val (.int u1), .val (.int u2), .val (.int u3)] [])) t → Steps p.tables e below (s₁.setTop (entryFrame m #[(.int bv), (.int fv), (.int lv), (.int pv)] maxLocals)) t := fun t kt => by
    refine pre244 _ ?_
    show Steps p.tables e below (T244.setTop (mkF m 166 #[.val (.int bv), .val (.int fv), .val (.int lv), .val (.int pv), .val (.ref b192), .val (.int (Int32.ofNat ov)), .val (.int (Int32.ofNat nv)), .val (.int vp), .val (.ref ca), .val (.int u0), .val (.int u1), .val (.int u2), .val (.int u3)] [(.int (f2 (Int32.ofNat ov) (Int32.ofNat nv) u0 d0 d1 d2 d3)), (.int (own_F (own_D d0 d1 d2 d3) ov nv (u0).toNatClampNeg))])) _
    refine XS.icmpNo X244.here hx rfl (hb hby at_166) rfl (teq (own_law ov nv hon u0 d0 d1 d2 d3 (nn_of _ hu0.1))).2 ?_
    show Steps p.tables e below (T244.setTop (mkF m 169 #[.val (.int bv), .val (.int fv), .val (.int lv), .val (.int pv), .val (.ref b192), .val (.int (Int32.ofNat ov)), .val (.int (Int32.ofNat nv)), .val (.int vp), .val (.ref ca), .val (.int u0), .val (.int u1), .val (.int u2), .val (.int u3)] [])) _
    exact kt
  have pre247 : ∀ t, Steps p.tables e below (T244.setTop (mkF m 173 #[.val (.int bv), .val (.int fv), .val (.int lv), .val (.int pv), .val (.ref b192), .val (.int (Int32.ofNat ov)), .val (.int (Int32.ofNat nv)), .val (.int vp), .val (.ref ca), .val (.int u0), .val (.int u1), .val (.int u2), .val (.int u3)] [(.int u1), (.ref ca)])) t → Steps p.tables e below (s₁.setTop (entryFrame m #[(.int bv), (.int fv), (.int lv), (.int pv)] maxLocals)) t := fun t kt => by
    refine pre246 _ ?_
    show Steps p.tables e below (T244.setTop (mkF m 169 #[.val (.int bv), .val (.int fv), .val (.int lv), .val (.int pv), .val (.ref b192), .val (.int (Int32.ofNat ov)), .val (.int (Int32.ofNat nv)), .val (.int vp), .val (.ref ca), .val (.int u0), .val (.int u1), .val (.int u2), .val (.int u3)] [])) _
    refine XS.aload X244.here hx rfl (hb hby at_169) rfl rfl ?_
    show Steps p.tables e below (T244.setTop (mkF m 171 #[.val (.int bv), .val (.int fv), .val (.int lv), .val (.int pv), .val (.ref b192), .val (.int (Int32.ofNat ov)), .val (.int (Int32.ofNat nv)), .val (.int vp), .val (.ref ca), .val (.int u0), .val (.int u1), .val (.int u2), .val (.int u3)] [(.ref ca)])) _
    refine XS.iload X244.here hx rfl (hb hby at_171) rfl ?_
    show Steps p.tables e below (T244.setTop (mkF m 173 #[.val (.int bv), .val (.int fv), .val (.int lv), .val (.int pv), .val (.ref b192), .val (.int (Int32.ofNat ov)), .val (.int (Int32.ofNat nv)), .val (.int vp), .val (.ref ca), .val (.int u0), .val (.int u1), .val (.int u2), .val (.int u3)] [(.int u1), (.ref ca)])) _
    exact kt
  have Vo_ca_248 := Vc209
  obtain ⟨cl_ca_248, Ar_ca_248, q_ca_248, S_ca_248, M_ca_248, H_ca_248, G_ca_248⟩ := Vo_ca_248
  have hin248 : ¬ (u1 < 0 ∨ cl_ca_248.slots.size ≤ (u1).toNatClampNeg) := inb_of S_ca_248 ⟨hu1.1, hu1.2.1⟩
  have hat248 : cl_ca_248.slots[(u1).toNatClampNeg]? = some (.int (own_F (own_D d0 d1 d2 d3) ov nv (u1).toNatClampNeg)) := H_ca_248.at (inb_of S_ca_248 ⟨hu1.1, hu1.2.1⟩) (own_L_at _ _ hu1.2.2)
  have pre249 : ∀ t, Steps p.tables e below (T244.setTop (mkF m 174 #[.val (.int bv), .val (.int fv), .val (.int lv), .val (.int pv), .val (.ref b192), .val (.int (Int32.ofNat ov)), .val (.int (Int32.ofNat nv)), .val (.int vp), .val (.ref ca), .val (.int u0), .val (.int u1), .val (.int u2), .val (.int u3)] [(.int (own_F (own_D d0 d1 d2 d3) ov nv (u1).toNatClampNeg))])) t → Steps p.tables e below (s₁.setTop (entryFrame m #[(.int bv), (.int fv), (.int lv), (.int pv)] maxLocals)) t := fun t kt => pre247 _ (X244.iaload hx (j := u1) (v := (.int (own_F (own_D d0 d1 d2 d3) ov nv (u1).toNatClampNeg))) (by rw [e244]; exact Ar_ca_248.1) (State.isArrayOf_alike hZ.alike Ar_ca_248.2.1) Ar_ca_248.2.2 hin248 hat248 (g := (mkF m 173 #[.val (.int bv), .val (.int fv), .val (.int lv), .val (.int pv), .val (.ref b192), .val (.int (Int32.ofNat ov)), .val (.int (Int32.ofNat nv)), .val (.int vp), .val (.ref ca), .val (.int u0), .val (.int u1), .val (.int u2), .val (.int u3)] [(.int u1), (.ref ca)])) rfl rfl (hb hby at_173) t kt)
  have pre250 : ∀ t, Steps p.tables e below (T244.setTop (mkF m 182 #[.val (.int bv), .val (.int fv), .val (.int lv), .val (.int pv), .val (.ref b192), .val (.int (Int32.ofNat ov)), .val (.int (Int32.ofNat nv)), .val (.int vp), .val (.ref ca), .val (.int u0), .val (.int u1), .val (.int u2), .val (.int u3)] [(.int u1), (.int (Int32.ofNat nv)), (.int (Int32.ofNat ov)), (.ref b192), (.int (own_F (own_D d0 d1 d2 d3) ov nv (u1).toNatClampNeg))])) t → Steps p.tables e below (s₁.setTop (entryFrame m #[(.int bv), (.int fv), (.int lv), (.int pv)] maxLocals)) t := fun t kt => by
    refine pre249 _ ?_
    show Steps p.tables e below (T244.setTop (mkF m 174 #[.val (.int bv), .val (.int fv), .val (.int lv), .val (.int pv), .val (.ref b192), .val (.int (Int32.ofNat ov)), .val (.int (Int32.ofNat nv)), .val (.int vp), .val (.ref ca), .val (.int u0), .val (.int u1), .val (.int u2), .val (.int u3)] [(.int (own_F (own_D d0 d1 d2 d3) ov nv (u1).toNatClampNeg))])) _
    refine XS.aload X244.here hx rfl (hb hby at_174) rfl rfl ?_
    show Steps p.tables e below (T244.setTop (mkF m 176 #[.val (.int bv), .val (.int fv), .val (.int lv), .val (.int pv), .val (.ref b192), .val (.int (Int32.ofNat ov)), .val (.int (Int32.ofNat nv)), .val (.int vp), .val (.ref ca), .val (.int u0), .val (.int u1), .val (.int u2), .val (.int u3)] [(.ref b192), (.int (own_F (own_D d0 d1 d2 d3) ov nv (u1).toNatClampNeg))])) _
    refine XS.iload X244.here hx rfl (hb hby at_176) rfl ?_
    show Steps p.tables e below (T244.setTop (mkF m 178 #[.val (.int bv), .val (.int fv), .val (.int lv), .val (.int pv), .val (.ref b192), .val (.int (Int32.ofNat ov)), .val (.int (Int32.ofNat nv)), .val (.int vp), .val (.ref ca), .val (.int u0), .val (.int u1), .val (.int u2), .val (.int u3)] [(.int (Int32.ofNat ov)), (.ref b192), (.int (own_F (own_D d0 d1 d2 d3) ov nv (u1).toNatClampNeg))])) _
    refine XS.iload X244.here hx rfl (hb hby at_178) rfl ?_
    show Steps p.tables e below (T244.setTop (mkF m 180 #[.val (.int bv), .val (.int fv), .val (.int lv), .val (.int pv), .val (.ref b192), .val (.int (Int32.ofNat ov)), .val (.int (Int32.ofNat nv)), .val (.int vp), .val (.ref ca), .val (.int u0), .val (.int u1), .val (.int u2), .val (.int u3)] [(.int (Int32.ofNat nv)), (.int (Int32.ofNat ov)), (.ref b192), (.int (own_F (own_D d0 d1 d2 d3) ov nv (u1).toNatClampNeg))])) _
    refine XS.iload X244.here hx rfl (hb hby at_180) rfl ?_
    show Steps p.tables e below (T244.setTop (mkF m 182 #[.val (.int bv), .val (.int fv), .val (.int lv), .val (.int pv), .val (.ref b192), .val (.int (Int32.ofNat ov)), .val (.int (Int32.ofNat nv)), .val (.int vp), .val (.ref ca), .val (.int u0), .val (.int u1), .val (.int u2), .val (.int u3)] [(.int u1), (.int (Int32.ofNat nv)), (.int (Int32.ofNat ov)), (.ref b192), (.int (own_F (own_D d0 d1 d2 d3) ov nv (u1).toNatClampNeg))])) _
    exact kt
  obtain ⟨_, _, ⟨T251, L251, k251, n251⟩, -, X251, ⟨Lc251, hQ251, l251, y251, z251⟩, st251⟩ := Jvm.LawKit.callS X244 hx (y := (⟨"com/example/leafweight/leafweight/BlockCodeCountPinLaw", "ref", "([BIII)I"⟩ : MethodName)) hown (mvT hZ (hw _ (List.mem_of_getElem? (i := 7) rfl))) (mvT hZ (hw _ (List.mem_of_getElem? (i := 8) rfl))) (mvT hZ (hw _ (List.mem_of_getElem? (i := 9) rfl))) (mvT hZ (hw _ (List.mem_of_getElem? (i := 10) rfl))) (by decide) (backOf (W := 1) (rm2 l Z aZ hw [] b192 (Int32.ofNat ov) (Int32.ofNat nv) u1 k192 d0 d1 d2 d3 T209.heap n0 Zs209 F209_0) hZ (hw _ (List.mem_of_getElem? (i := 10) rfl)) (hw _ (List.mem_of_getElem? (i := 9) rfl)) (by decide) (by decide)) (g := (mkF m 182 #[.val (.int bv), .val (.int fv), .val (.int lv), .val (.int pv), .val (.ref b192), .val (.int (Int32.ofNat ov)), .val (.int (Int32.ofNat nv)), .val (.int vp), .val (.ref ca), .val (.int u0), .val (.int u1), .val (.int u2), .val (.int u3)] [(.int u1), (.int (Int32.ofNat nv)), (.int (Int32.ofNat ov)), (.ref b192), (.int (own_F (own_D d0 d1 d2 d3) ov nv (u1).toNatClampNeg))])) rfl (by rw [hml]; rfl) (argsL := [(.ref b192), (.int (Int32.ofNat ov)), (.int (Int32.ofNat nv)), (.int u1)]) (rest := [(.int (own_F (own_D d0 d1 d2 d3) ov nv (u1).toNatClampNeg))]) (lenOf pd_1 rfl) rfl (by show 2 * 0 + _ ≤ _; exact Nat.le_of_eq rfl) (hb hby at_182) (fun _ _ => ⟨rfl, e244, (by decide : 2 + 0 ≤ _), (by decide : 260 + 0 ≤ _)⟩)
  dsimp only [Pt.U, Pt.locs, Pt.cells, Pt.slots] at X251 l251 y251 z251 st251 hQ251
  subst l251 y251 z251
  obtain ⟨rfl, N251q, e251⟩ := hQ251
  have N251 := Fr.app N244 N251q
  have pre251 : ∀ t, Steps p.tables e below (T251.setTop (mkF m 185 #[.val (.int bv), .val (.int fv), .val (.int lv), .val (.int pv), .val (.ref b192), .val (.int (Int32.ofNat ov)), .val (.int (Int32.ofNat nv)), .val (.int vp), .val (.ref ca), .val (.int u0), .val (.int u1), .val (.int u2), .val (.int u3)] [(.int (f2 (Int32.ofNat ov) (Int32.ofNat nv) u1 d0 d1 d2 d3)), (.int (own_F (own_D d0 d1 d2 d3) ov nv (u1).toNatClampNeg))])) t → Steps p.tables e below (s₁.setTop (entryFrame m #[(.int bv), (.int fv), (.int lv), (.int pv)] maxLocals)) t := fun t kt => pre250 _ (st251 t kt)
  have pre253 : ∀ t, Steps p.tables e below (T251.setTop (mkF m 188 #[.val (.int bv), .val (.int fv), .val (.int lv), .val (.int pv), .val (.ref b192), .val (.int (Int32.ofNat ov)), .val (.int (Int32.ofNat nv)), .val (.int vp), .val (.ref ca), .val (.int u0), .val (.int u1), .val (.int u2), .val (.int u3)] [])) t → Steps p.tables e below (s₁.setTop (entryFrame m #[(.int bv), (.int fv), (.int lv), (.int pv)] maxLocals)) t := fun t kt => by
    refine pre251 _ ?_
    show Steps p.tables e below (T251.setTop (mkF m 185 #[.val (.int bv), .val (.int fv), .val (.int lv), .val (.int pv), .val (.ref b192), .val (.int (Int32.ofNat ov)), .val (.int (Int32.ofNat nv)), .val (.int vp), .val (.ref ca), .val (.int u0), .val (.int u1), .val (.int u2), .val (.int u3)] [(.int (f2 (Int32.ofNat ov) (Int32.ofNat nv) u1 d0 d1 d2 d3)), (.int (own_F (own_D d0 d1 d2 d3) ov nv (u1).toNatClampNeg))])) _
    refine XS.icmpNo X251.here hx rfl (hb hby at_185) rfl (teq (own_law ov nv hon u1 d0 d1 d2 d3 (nn_of _ hu1.1))).2 ?_
    show Steps p.tables e below (T251.setTop (mkF m 188 #[.val (.int bv), .val (.int fv), .val (.int lv), .val (.int pv), .val (.ref b192), .val (.int (Int32.ofNat ov)), .val (.int (Int32.ofNat nv)), .val (.int vp), .val (.ref ca), .val (.int u0), .val (.int u1), .val (.int u2), .val (.int u3)] [])) _
    exact kt
  have pre254 : ∀ t, Steps p.tables e below (T251.setTop (mkF m 192 #[.val (.int bv), .val (.int fv), .val (.int lv), .val (.int pv), .val (.ref b192), .val (.int (Int32.ofNat ov)), .val (.int (Int32.ofNat nv)), .val (.int vp), .val (.ref ca), .val (.int u0), .val (.int u1), .val (.int u2), .val (.int u3)] [(.int u2), (.ref ca)])) t → Steps p.tables e below (s₁.setTop (entryFrame m #[(.int bv), (.int fv), (.int lv), (.int pv)] maxLocals)) t := fun t kt => by
    refine pre253 _ ?_
    show Steps p.tables e below (T251.setTop (mkF m 188 #[.val (.int bv), .val (.int fv), .val (.int lv), .val (.int pv), .val (.ref b192), .val (.int (Int32.ofNat ov)), .val (.int (Int32.ofNat nv)), .val (.int vp), .val (.ref ca), .val (.int u0), .val (.int u1), .val (.int u2), .val (.int u3)] [])) _
    refine XS.aload X251.here hx rfl (hb hby at_188) rfl rfl ?_
    show Steps p.tables e below (T251.setTop (mkF m 190 #[.val (.int bv), .val (.int fv), .val (.int lv), .val (.int pv), .val (.ref b192), .val (.int (Int32.ofNat ov)), .val (.int (Int32.ofNat nv)), .val (.int vp), .val (.ref ca), .val (.int u0), .val (.int u1), .val (.int u2), .val (.int u3)] [(.ref ca)])) _
    refine XS.iload X251.here hx rfl (hb hby at_190) rfl ?_
    show Steps p.tables e below (T251.setTop (mkF m 192 #[.val (.int bv), .val (.int fv), .val (.int lv), .val (.int pv), .val (.ref b192), .val (.int (Int32.ofNat ov)), .val (.int (Int32.ofNat nv)), .val (.int vp), .val (.ref ca), .val (.int u0), .val (.int u1), .val (.int u2), .val (.int u3)] [(.int u2), (.ref ca)])) _
    exact kt
  have Vo_ca_255 := Vc209
  obtain ⟨cl_ca_255, Ar_ca_255, q_ca_255, S_ca_255, M_ca_255, H_ca_255, G_ca_255⟩ := Vo_ca_255
  have hin255 : ¬ (u2 < 0 ∨ cl_ca_255.slots.size ≤ (u2).toNatClampNeg) := inb_of S_ca_255 ⟨hu2.1, hu2.2.1⟩
  have hat255 : cl_ca_255.slots[(u2).toNatClampNeg]? = some (.int (own_F (own_D d0 d1 d2 d3) ov nv (u2).toNatClampNeg)) := H_ca_255.at (inb_of S_ca_255 ⟨hu2.1, hu2.2.1⟩) (own_L_at _ _ hu2.2.2)
  have pre256 : ∀ t, Steps p.tables e below (T251.setTop (mkF m 193 #[.val (.int bv), .val (.int fv), .val (.int lv), .val (.int pv), .val (.ref b192), .val (.int (Int32.ofNat ov)), .val (.int (Int32.ofNat nv)), .val (.int vp), .val (.ref ca), .val (.int u0), .val (.int u1), .val (.int u2), .val (.int u3)] [(.int (own_F (own_D d0 d1 d2 d3) ov nv (u2).toNatClampNeg))])) t → Steps p.tables e below (s₁.setTop (entryFrame m #[(.int bv), (.int fv), (.int lv), (.int pv)] maxLocals)) t := fun t kt => pre254 _ (X251.iaload hx (j := u2) (v := (.int (own_F (own_D d0 d1 d2 d3) ov nv (u2).toNatClampNeg))) (by rw [e251]; exact Ar_ca_255.1) (State.isArrayOf_alike hZ.alike Ar_ca_255.2.1) Ar_ca_255.2.2 hin255 hat255 (g := (mkF m 192 #[.val (.int bv), .val (.int fv), .val (.int lv), .val (.int pv), .val (.ref b192), .val (.int (Int32.ofNat ov)), .val (.int (Int32.ofNat nv)), .val (.int vp), .val (.ref ca), .val (.int u0), .val (.int u1), .val (.int u2), .val (.int u3)] [(.int u2), (.ref ca)])) rfl rfl (hb hby at_192) t kt)
  have pre257 : ∀ t, Steps p.tables e below (T251.setTop (mkF m 201 #[.val (.int bv), .val (.int fv), .val (.int lv), .val (.int pv), .val (.ref b192), .val (.int (Int32.ofNat ov)), .val (.int (Int32.ofNat nv)), .val (.int vp), .val (.ref ca), .val (.int u0), .val (.int u1), .val (.int u2), .val (.int u3)] [(.int u2), (.int (Int32.ofNat nv)), (.int (Int32.ofNat ov)), (.ref b192), (.int (own_F (own_D d0 d1 d2 d3) ov nv (u2).toNatClampNeg))])) t → Steps p.tables e below (s₁.setTop (entryFrame m #[(.int bv), (.int fv), (.int lv), (.int pv)] maxLocals)) t := fun t kt => by
    refine pre256 _ ?_
    show Steps p.tables e below (T251.setTop (mkF m 193 #[.val (.int bv), .val (.int fv), .val (.int lv), .val (.int pv), .val (.ref b192), .val (.int (Int32.ofNat ov)), .val (.int (Int32.ofNat nv)), .val (.int vp), .val (.ref ca), .val (.int u0), .val (.int u1), .val (.int u2), .val (.int u3)] [(.int (own_F (own_D d0 d1 d2 d3) ov nv (u2).toNatClampNeg))])) _
    refine XS.aload X251.here hx rfl (hb hby at_193) rfl rfl ?_
    show Steps p.tables e below (T251.setTop (mkF m 195 #[.val (.int bv), .val (.int fv), .val (.int lv), .val (.int pv), .val (.ref b192), .val (.int (Int32.ofNat ov)), .val (.int (Int32.ofNat nv)), .val (.int vp), .val (.ref ca), .val (.int u0), .val (.int u1), .val (.int u2), .val (.int u3)] [(.ref b192), (.int (own_F (own_D d0 d1 d2 d3) ov nv (u2).toNatClampNeg))])) _
    refine XS.iload X251.here hx rfl (hb hby at_195) rfl ?_
    show Steps p.tables e below (T251.setTop (mkF m 197 #[.val (.int bv), .val (.int fv), .val (.int lv), .val (.int pv), .val (.ref b192), .val (.int (Int32.ofNat ov)), .val (.int (Int32.ofNat nv)), .val (.int vp), .val (.ref ca), .val (.int u0), .val (.int u1), .val (.int u2), .val (.int u3)] [(.int (Int32.ofNat ov)), (.ref b192), (.int (own_F (own_D d0 d1 d2 d3) ov nv (u2).toNatClampNeg))])) _
    refine XS.iload X251.here hx rfl (hb hby at_197) rfl ?_
    show Steps p.tables e below (T251.setTop (mkF m 199 #[.val (.int bv), .val (.int fv), .val (.int lv), .val (.int pv), .val (.ref b192), .val (.int (Int32.ofNat ov)), .val (.int (Int32.ofNat nv)), .val (.int vp), .val (.ref ca), .val (.int u0), .val (.int u1), .val (.int u2), .val (.int u3)] [(.int (Int32.ofNat nv)), (.int (Int32.ofNat ov)), (.ref b192), (.int (own_F (own_D d0 d1 d2 d3) ov nv (u2).toNatClampNeg))])) _
    refine XS.iload X251.here hx rfl (hb hby at_199) rfl ?_
    show Steps p.tables e below (T251.setTop (mkF m 201 #[.val (.int bv), .val (.int fv), .val (.int lv), .val (.int pv), .val (.ref b192), .val (.int (Int32.ofNat ov)), .val (.int (Int32.ofNat nv)), .val (.int vp), .val (.ref ca), .val (.int u0), .val (.int u1), .val (.int u2), .val (.int u3)] [(.int u2), (.int (Int32.ofNat nv)), (.int (Int32.ofNat ov)), (.ref b192), (.int (own_F (own_D d0 d1 d2 d3) ov nv (u2).toNatClampNeg))])) _
    exact kt
  obtain ⟨_, _, ⟨T258, L258, k258, n258⟩, -, X258, ⟨Lc258, hQ258, l258, y258, z258⟩, st258⟩ := Jvm.LawKit.callS X251 hx (y := (⟨"com/example/leafweight/leafweight/BlockCodeCountPinLaw", "ref", "([BIII)I"⟩ : MethodName)) hown (mvT hZ (hw _ (List.mem_of_getElem? (i := 7) rfl))) (mvT hZ (hw _ (List.mem_of_getElem? (i := 8) rfl))) (mvT hZ (hw _ (List.mem_of_getElem? (i := 9) rfl))) (mvT hZ (hw _ (List.mem_of_getElem? (i := 10) rfl))) (by decide) (backOf (W := 1) (rm2 l Z aZ hw [] b192 (Int32.ofNat ov) (Int32.ofNat nv) u2 k192 d0 d1 d2 d3 T209.heap n0 Zs209 F209_0) hZ (hw _ (List.mem_of_getElem? (i := 10) rfl)) (hw _ (List.mem_of_getElem? (i := 9) rfl)) (by decide) (by decide)) (g := (mkF m 201 #[.val (.int bv), .val (.int fv), .val (.int lv), .val (.int pv), .val (.ref b192), .val (.int (Int32.ofNat ov)), .val (.int (Int32.ofNat nv)), .val (.int vp), .val (.ref ca), .val (.int u0), .val (.int u1), .val (.int u2), .val (.int u3)] [(.int u2), (.int (Int32.ofNat nv)), (.int (Int32.ofNat ov)), (.ref b192), (.int (own_F (own_D d0 d1 d2 d3) ov nv (u2).toNatClampNeg))])) rfl (by rw [hml]; rfl) (argsL := [(.ref b192), (.int (Int32.ofNat ov)), (.int (Int32.ofNat nv)), (.int u2)]) (rest := [(.int (own_F (own_D d0 d1 d2 d3) ov nv (u2).toNatClampNeg))]) (lenOf pd_1 rfl) rfl (by show 2 * 0 + _ ≤ _; exact Nat.le_of_eq rfl) (hb hby at_201) (fun _ _ => ⟨rfl, e251, (by decide : 2 + 0 ≤ _), (by decide : 260 + 0 ≤ _)⟩)
  dsimp only [Pt.U, Pt.locs, Pt.cells, Pt.slots] at X258 l258 y258 z258 st258 hQ258
  subst l258 y258 z258
  obtain ⟨rfl, N258q, e258⟩ := hQ258
  have N258 := Fr.app N251 N258q
  have pre258 : ∀ t, Steps p.tables e below (T258.setTop (mkF m 204 #[.val (.int bv), .val (.int fv), .val (.int lv), .val (.int pv), .val (.ref b192), .val (.int (Int32.ofNat ov)), .val (.int (Int32.ofNat nv)), .val (.int vp), .val (.ref ca), .val (.int u0), .val (.int u1), .val (.int u2), .val (.int u3)] [(.int (f2 (Int32.ofNat ov) (Int32.ofNat nv) u2 d0 d1 d2 d3)), (.int (own_F (own_D d0 d1 d2 d3) ov nv (u2).toNatClampNeg))])) t → Steps p.tables e below (s₁.setTop (entryFrame m #[(.int bv), (.int fv), (.int lv), (.int pv)] maxLocals)) t := fun t kt => pre257 _ (st258 t kt)
  have pre260 : ∀ t, Steps p.tables e below (T258.setTop (mkF m 207 #[.val (.int bv), .val (.int fv), .val (.int lv), .val (.int pv), .val (.ref b192), .val (.int (Int32.ofNat ov)), .val (.int (Int32.ofNat nv)), .val (.int vp), .val (.ref ca), .val (.int u0), .val (.int u1), .val (.int u2), .val (.int u3)] [])) t → Steps p.tables e below (s₁.setTop (entryFrame m #[(.int bv), (.int fv), (.int lv), (.int pv)] maxLocals)) t := fun t kt => by
    refine pre258 _ ?_
    show Steps p.tables e below (T258.setTop (mkF m 204 #[.val (.int bv), .val (.int fv), .val (.int lv), .val (.int pv), .val (.ref b192), .val (.int (Int32.ofNat ov)), .val (.int (Int32.ofNat nv)), .val (.int vp), .val (.ref ca), .val (.int u0), .val (.int u1), .val (.int u2), .val (.int u3)] [(.int (f2 (Int32.ofNat ov) (Int32.ofNat nv) u2 d0 d1 d2 d3)), (.int (own_F (own_D d0 d1 d2 d3) ov nv (u2).toNatClampNeg))])) _
    refine XS.icmpNo X258.here hx rfl (hb hby at_204) rfl (teq (own_law ov nv hon u2 d0 d1 d2 d3 (nn_of _ hu2.1))).2 ?_
    show Steps p.tables e below (T258.setTop (mkF m 207 #[.val (.int bv), .val (.int fv), .val (.int lv), .val (.int pv), .val (.ref b192), .val (.int (Int32.ofNat ov)), .val (.int (Int32.ofNat nv)), .val (.int vp), .val (.ref ca), .val (.int u0), .val (.int u1), .val (.int u2), .val (.int u3)] [])) _
    exact kt
  have pre261 : ∀ t, Steps p.tables e below (T258.setTop (mkF m 211 #[.val (.int bv), .val (.int fv), .val (.int lv), .val (.int pv), .val (.ref b192), .val (.int (Int32.ofNat ov)), .val (.int (Int32.ofNat nv)), .val (.int vp), .val (.ref ca), .val (.int u0), .val (.int u1), .val (.int u2), .val (.int u3)] [(.int u3), (.ref ca)])) t → Steps p.tables e below (s₁.setTop (entryFrame m #[(.int bv), (.int fv), (.int lv), (.int pv)] maxLocals)) t := fun t kt => by
    refine pre260 _ ?_
    show Steps p.tables e below (T258.setTop (mkF m 207 #[.val (.int bv), .val (.int fv), .val (.int lv), .val (.int pv), .val (.ref b192), .val (.int (Int32.ofNat ov)), .val (.int (Int32.ofNat nv)), .val (.int vp), .val (.ref ca), .val (.int u0), .val (.int u1), .val (.int u2), .val (.int u3)] [])) _
    refine XS.aload X258.here hx rfl (hb hby at_207) rfl rfl ?_
    show Steps p.tables e below (T258.setTop (mkF m 209 #[.val (.int bv), .val (.int fv), .val (.int lv), .val (.int pv), .val (.ref b192), .val (.int (Int32.ofNat ov)), .val (.int (Int32.ofNat nv)), .val (.int vp), .val (.ref ca), .val (.int u0), .val (.int u1), .val (.int u2), .val (.int u3)] [(.ref ca)])) _
    refine XS.iload X258.here hx rfl (hb hby at_209) rfl ?_
    show Steps p.tables e below (T258.setTop (mkF m 211 #[.val (.int bv), .val (.int fv), .val (.int lv), .val (.int pv), .val (.ref b192), .val (.int (Int32.ofNat ov)), .val (.int (Int32.ofNat nv)), .val (.int vp), .val (.ref ca), .val (.int u0), .val (.int u1), .val (.int u2), .val (.int u3)] [(.int u3), (.ref ca)])) _
    exact kt
  have Vo_ca_262 := Vc209
  obtain ⟨cl_ca_262, Ar_ca_262, q_ca_262, S_ca_262, M_ca_262, H_ca_262, G_ca_262⟩ := Vo_ca_262
  have hin262 : ¬ (u3 < 0 ∨ cl_ca_262.slots.size ≤ (u3).toNatClampNeg) := inb_of S_ca_262 ⟨hu3.1, hu3.2.1⟩
  have hat262 : cl_ca_262.slots[(u3).toNatClampNeg]? = some (.int (own_F (own_D d0 d1 d2 d3) ov nv (u3).toNatClampNeg)) := H_ca_262.at (inb_of S_ca_262 ⟨hu3.1, hu3.2.1⟩) (own_L_at _ _ hu3.2.2)
  have pre263 : ∀ t, Steps p.tables e below (T258.setTop (mkF m 212 #[.val (.int bv), .val (.int fv), .val (.int lv), .val (.int pv), .val (.ref b192), .val (.int (Int32.ofNat ov)), .val (.int (Int32.ofNat nv)), .val (.int vp), .val (.ref ca), .val (.int u0), .val (.int u1), .val (.int u2), .val (.int u3)] [(.int (own_F (own_D d0 d1 d2 d3) ov nv (u3).toNatClampNeg))])) t → Steps p.tables e below (s₁.setTop (entryFrame m #[(.int bv), (.int fv), (.int lv), (.int pv)] maxLocals)) t := fun t kt => pre261 _ (X258.iaload hx (j := u3) (v := (.int (own_F (own_D d0 d1 d2 d3) ov nv (u3).toNatClampNeg))) (by rw [e258]; exact Ar_ca_262.1) (State.isArrayOf_alike hZ.alike Ar_ca_262.2.1) Ar_ca_262.2.2 hin262 hat262 (g := (mkF m 211 #[.val (.int bv), .val (.int fv), .val (.int lv), .val (.int pv), .val (.ref b192), .val (.int (Int32.ofNat ov)), .val (.int (Int32.ofNat nv)), .val (.int vp), .val (.ref ca), .val (.int u0), .val (.int u1), .val (.int u2), .val (.int u3)] [(.int u3), (.ref ca)])) rfl rfl (hb hby at_211) t kt)
  have pre264 : ∀ t, Steps p.tables e below (T258.setTop (mkF m 220 #[.val (.int bv), .val (.int fv), .val (.int lv), .val (.int pv), .val (.ref b192), .val (.int (Int32.ofNat ov)), .val (.int (Int32.ofNat nv)), .val (.int vp), .val (.ref ca), .val (.int u0), .val (.int u1), .val (.int u2), .val (.int u3)] [(.int u3), (.int (Int32.ofNat nv)), (.int (Int32.ofNat ov)), (.ref b192), (.int (own_F (own_D d0 d1 d2 d3) ov nv (u3).toNatClampNeg))])) t → Steps p.tables e below (s₁.setTop (entryFrame m #[(.int bv), (.int fv), (.int lv), (.int pv)] maxLocals)) t := fun t kt => by
    refine pre263 _ ?_
    show Steps p.tables e below (T258.setTop (mkF m 212 #[.val (.int bv), .val (.int fv), .val (.int lv), .val (.int pv), .val (.ref b192), .val (.int (Int32.ofNat ov)), .val (.int (Int32.ofNat nv)), .val (.int vp), .val (.ref ca), .val (.int u0), .val (.int u1), .val (.int u2), .val (.int u3)] [(.int (own_F (own_D d0 d1 d2 d3) ov nv (u3).toNatClampNeg))])) _
    refine XS.aload X258.here hx rfl (hb hby at_212) rfl rfl ?_
    show Steps p.tables e below (T258.setTop (mkF m 214 #[.val (.int bv), .val (.int fv), .val (.int lv), .val (.int pv), .val (.ref b192), .val (.int (Int32.ofNat ov)), .val (.int (Int32.ofNat nv)), .val (.int vp), .val (.ref ca), .val (.int u0), .val (.int u1), .val (.int u2), .val (.int u3)] [(.ref b192), (.int (own_F (own_D d0 d1 d2 d3) ov nv (u3).toNatClampNeg))])) _
    refine XS.iload X258.here hx rfl (hb hby at_214) rfl ?_
    show Steps p.tables e below (T258.setTop (mkF m 216 #[.val (.int bv), .val (.int fv), .val (.int lv), .val (.int pv), .val (.ref b192), .val (.int (Int32.ofNat ov)), .val (.int (Int32.ofNat nv)), .val (.int vp), .val (.ref ca), .val (.int u0), .val (.int u1), .val (.int u2), .val (.int u3)] [(.int (Int32.ofNat ov)), (.ref b192), (.int (own_F (own_D d0 d1 d2 d3) ov nv (u3).toNatClampNeg))])) _
    refine XS.iload X258.here hx rfl (hb hby at_216) rfl ?_
    show Steps p.tables e below (T258.setTop (mkF m 218 #[.val (.int bv), .val (.int fv), .val (.int lv), .val (.int pv), .val (.ref b192), .val (.int (Int32.ofNat ov)), .val (.int (Int32.ofNat nv)), .val (.int vp), .val (.ref ca), .val (.int u0), .val (.int u1), .val (.int u2), .val (.int u3)] [(.int (Int32.ofNat nv)), (.int (Int32.ofNat ov)), (.ref b192), (.int (own_F (own_D d0 d1 d2 d3) ov nv (u3).toNatClampNeg))])) _
    refine XS.iload X258.here hx rfl (hb hby at_218) rfl ?_
    show Steps p.tables e below (T258.setTop (mkF m 220 #[.val (.int bv), .val (.int fv), .val (.int lv), .val (.int pv), .val (.ref b192), .val (.int (Int32.ofNat ov)), .val (.int (Int32.ofNat nv)), .val (.int vp), .val (.ref ca), .val (.int u0), .val (.int u1), .val (.int u2), .val (.int u3)] [(.int u3), (.int (Int32.ofNat nv)), (.int (Int32.ofNat ov)), (.ref b192), (.int (own_F (own_D d0 d1 d2 d3) ov nv (u3).toNatClampNeg))])) _
    exact kt
  obtain ⟨_, _, ⟨T265, L265, k265, n265⟩, -, X265, ⟨Lc265, hQ265, l265, y265, z265⟩, st265⟩ := Jvm.LawKit.callS X258 hx (y := (⟨"com/example/leafweight/leafweight/BlockCodeCountPinLaw", "ref", "([BIII)I"⟩ : MethodName)) hown (mvT hZ (hw _ (List.mem_of_getElem? (i := 7) rfl))) (mvT hZ (hw _ (List.mem_of_getElem? (i := 8) rfl))) (mvT hZ (hw _ (List.mem_of_getElem? (i := 9) rfl))) (mvT hZ (hw _ (List.mem_of_getElem? (i := 10) rfl))) (by decide) (backOf (W := 1) (rm2 l Z aZ hw [] b192 (Int32.ofNat ov) (Int32.ofNat nv) u3 k192 d0 d1 d2 d3 T209.heap n0 Zs209 F209_0) hZ (hw _ (List.mem_of_getElem? (i := 10) rfl)) (hw _ (List.mem_of_getElem? (i := 9) rfl)) (by decide) (by decide)) (g := (mkF m 220 #[.val (.int bv), .val (.int fv), .val (.int lv), .val (.int pv), .val (.ref b192), .val (.int (Int32.ofNat ov)), .val (.int (Int32.ofNat nv)), .val (.int vp), .val (.ref ca), .val (.int u0), .val (.int u1), .val (.int u2), .val (.int u3)] [(.int u3), (.int (Int32.ofNat nv)), (.int (Int32.ofNat ov)), (.ref b192), (.int (own_F (own_D d0 d1 d2 d3) ov nv (u3).toNatClampNeg))])) rfl (by rw [hml]; rfl) (argsL := [(.ref b192), (.int (Int32.ofNat ov)), (.int (Int32.ofNat nv)), (.int u3)]) (rest := [(.int (own_F (own_D d0 d1 d2 d3) ov nv (u3).toNatClampNeg))]) (lenOf pd_1 rfl) rfl (by show 2 * 0 + _ ≤ _; exact Nat.le_of_eq rfl) (hb hby at_220) (fun _ _ => ⟨rfl, e258, (by decide : 2 + 0 ≤ _), (by decide : 260 + 0 ≤ _)⟩)
  dsimp only [Pt.U, Pt.locs, Pt.cells, Pt.slots] at X265 l265 y265 z265 st265 hQ265
  subst l265 y265 z265
  obtain ⟨rfl, N265q, e265⟩ := hQ265
  have N265 := Fr.app N258 N265q
  have pre265 : ∀ t, Steps p.tables e below (T265.setTop (mkF m 223 #[.val (.int bv), .val (.int fv), .val (.int lv), .val (.int pv), .val (.ref b192), .val (.int (Int32.ofNat ov)), .val (.int (Int32.ofNat nv)), .val (.int vp), .val (.ref ca), .val (.int u0), .val (.int u1), .val (.int u2), .val (.int u3)] [(.int (f2 (Int32.ofNat ov) (Int32.ofNat nv) u3 d0 d1 d2 d3)), (.int (own_F (own_D d0 d1 d2 d3) ov nv (u3).toNatClampNeg))])) t → Steps p.tables e below (s₁.setTop (entryFrame m #[(.int bv), (.int fv), (.int lv), (.int pv)] maxLocals)) t := fun t kt => pre264 _ (st265 t kt)
  have pre267 : ∀ t, Steps p.tables e below (T265.setTop (mkF m 226 #[.val (.int bv), .val (.int fv), .val (.int lv), .val (.int pv), .val (.ref b192), .val (.int (Int32.ofNat ov)), .val (.int (Int32.ofNat nv)), .val (.int vp), .val (.ref ca), .val (.int u0), .val (.int u1), .val (.int u2), .val (.int u3)] [])) t → Steps p.tables e below (s₁.setTop (entryFrame m #[(.int bv), (.int fv), (.int lv), (.int pv)] maxLocals)) t := fun t kt => by
    refine pre265 _ ?_
    show Steps p.tables e below (T265.setTop (mkF m 223 #[.val (.int bv), .val (.int fv), .val (.int lv), .val (.int pv), .val (.ref b192), .val (.int (Int32.ofNat ov)), .val (.int (Int32.ofNat nv)), .val (.int vp), .val (.ref ca), .val (.int u0), .val (.int u1), .val (.int u2), .val (.int u3)] [(.int (f2 (Int32.ofNat ov) (Int32.ofNat nv) u3 d0 d1 d2 d3)), (.int (own_F (own_D d0 d1 d2 d3) ov nv (u3).toNatClampNeg))])) _
    refine XS.icmpNo X265.here hx rfl (hb hby at_223) rfl (teq (own_law ov nv hon u3 d0 d1 d2 d3 (nn_of _ hu3.1))).2 ?_
    show Steps p.tables e below (T265.setTop (mkF m 226 #[.val (.int bv), .val (.int fv), .val (.int lv), .val (.int pv), .val (.ref b192), .val (.int (Int32.ofNat ov)), .val (.int (Int32.ofNat nv)), .val (.int vp), .val (.ref ca), .val (.int u0), .val (.int u1), .val (.int u2), .val (.int u3)] [])) _
    exact kt
  have pre268 : ∀ t, Steps p.tables e below (T265.setTop (mkF m 231 #[.val (.int bv), .val (.int fv), .val (.int lv), .val (.int pv), .val (.ref b192), .val (.int (Int32.ofNat ov)), .val (.int (Int32.ofNat nv)), .val (.int vp), .val (.ref ca), .val (.int u0), .val (.int u1), .val (.int u2), .val (.int u3)] [(.int (1 : Int32))])) t → Steps p.tables e below (s₁.setTop (entryFrame m #[(.int bv), (.int fv), (.int lv), (.int pv)] maxLocals)) t := fun t kt => by
    refine pre267 _ ?_
    show Steps p.tables e below (T265.setTop (mkF m 226 #[.val (.int bv), .val (.int fv), .val (.int lv), .val (.int pv), .val (.ref b192), .val (.int (Int32.ofNat ov)), .val (.int (Int32.ofNat nv)), .val (.int vp), .val (.ref ca), .val (.int u0), .val (.int u1), .val (.int u2), .val (.int u3)] [])) _
    refine XS.iconst X265.here hx rfl (hb hby at_226) ?_
    show Steps p.tables e below (T265.setTop (mkF m 227 #[.val (.int bv), .val (.int fv), .val (.int lv), .val (.int pv), .val (.ref b192), .val (.int (Int32.ofNat ov)), .val (.int (Int32.ofNat nv)), .val (.int vp), .val (.ref ca), .val (.int u0), .val (.int u1), .val (.int u2), .val (.int u3)] [(.int (1 : Int32))])) _
    refine XS.goto X265.here hx rfl (pc0 := 227) (pc' := 231) rfl (hb hby at_227) (by decide) (by decide) ?_
    show Steps p.tables e below (T265.setTop (mkF m 231 #[.val (.int bv), .val (.int fv), .val (.int lv), .val (.int pv), .val (.ref b192), .val (.int (Int32.ofNat ov)), .val (.int (Int32.ofNat nv)), .val (.int vp), .val (.ref ca), .val (.int u0), .val (.int u1), .val (.int u2), .val (.int u3)] [(.int (1 : Int32))])) _
    exact kt
  obtain ⟨fs, hr, hrun, hended, hW, hsame⟩ := X265.leave (v := some (.int (1 : Int32))) (fun h => by rw [Bd.returns] at h; cases h)
  refine ⟨_, _, pre268 _ ?_, hrun, hended, _, _, rfl, ?_, ⟨_, rfl⟩, hW, hsame.mono (by decide) (by decide)⟩
  · show Steps p.tables e below (T265.setTop (mkF m 231 #[.val (.int bv), .val (.int fv), .val (.int lv), .val (.int pv), .val (.ref b192), .val (.int (Int32.ofNat ov)), .val (.int (Int32.ofNat nv)), .val (.int vp), .val (.ref ca), .val (.int u0), .val (.int u1), .val (.int u2), .val (.int u3)] [(.int (1 : Int32))])) _
    exact retN X265 hx (t := .boolean) Bd.returns (by simp) (hb hby at_231) hr
  · show Q0 bv fv lv pv h0 n0 _ T265.heap _
    exact ⟨rfl, N265⟩
set_option maxRecDepth 65536 in
set_option maxHeartbeats 40000000 in
theorem comes_1 {Post : Tables → Env → Array Value → State → Outcome → State → Prop} (hpost : ∀ tb e args s v u, (limb_1_1.after args s (.returned v) u = true ∧ limb_1_2.after args s (.returned v) u = true ∧ True) → FrameEnd s (.returned v) u (Jvm.fieldLocs frame_1_writes args s ++ Jvm.arrayLocs frame_1_arrays args s ++ Jvm.staticLocs frame_1_statics s) 16 640 → Post tb e args s (.returned v) u) :
    ArmFor flags0 classFile x code maxLocals ret World_1 tables_1 room_1 Calls_1 rest_1 Pre_1 Post := by
  intro l hfl _ _ p e ha hc hk s m args below hf hA hF happ hP
  obtain ⟨hcalls, hrest, hpre⟩ := hP
  obtain ⟨-, -, -, hnamed, -, -, -, hat⟩ := (Spec.applies_iff hf).mp happ
  obtain ⟨hg, hn⟩ := and_e (Cond.before_iff.mp (show (Jvm.Cond.and given_1 narrow_1).before args s = true from hpre))
  obtain ⟨ga0, gb0⟩ := and_e hg
  obtain ⟨ga1, gb1⟩ := and_e gb0
  obtain ⟨ga2, gb2⟩ := and_e gb1
  obtain ⟨ga3, gb3⟩ := and_e gb2
  obtain ⟨w0, w1, w2, w3, rfl⟩ : ∃ w0 w1 w2 w3 : Value, args = #[w0, w1, w2, w3] := by
    have hs : args.size = 4 := by simpa [Cond.value, given_1] using ga0
    obtain ⟨L⟩ := args
    match L, hs with
    | [w0, w1, w2, w3], _ => exact ⟨w0, w1, w2, w3, rfl⟩
  have hw := fun d (hd : d ∈ tables_1) => atoms_spec (ws := Jvm.Cond.code x code maxLocals ret :: tables_1) hat d (List.mem_cons_of_mem _ hd)
  have hfit : Fit s := fun {y c} hc i hi => by
    obtain ⟨ha, rfl⟩ := Array.getElem?_eq_some_iff.mp hc
    have q := List.all_eq_true.mp ((Array.all_eq_true_iff_forall_mem.mp hF) _ (Array.getElem_mem ha)) i (List.mem_range.mpr hi)
    simpa [Array.getElem?_eq_getElem hi] using q
  obtain ⟨i0, ei0⟩ := is_v ga1
  obtain rfl : w0 = (.int i0) := Option.some.inj ei0
  obtain ⟨i1, ei1⟩ := is_v ga2
  obtain rfl : w1 = (.int i1) := Option.some.inj ei1
  obtain ⟨i2, ei2⟩ := is_v ga3
  obtain rfl : w2 = (.int i2) := Option.some.inj ei2
  obtain ⟨i3, ei3⟩ := is_v gb3
  obtain rfl : w3 = (.int i3) := Option.some.inj ei3
  obtain ⟨n, o, h1, h2, h3, _, L, rfl, ⟨rfl, N⟩, hq⟩ := rm0 l s _ hw tables_1 i0 i1 i2 i3  s.heap s.heap.size (Nat.le_refl _)  p e ha hc hk s m _ below hf ((Spec.applies_iff_loose hf).mp happ).1 ⟨rfl, State.Warmed39.refl s, rfl⟩ trivial
  refine ⟨n, _, h1, h2, h3, hpost _ _ _ _ _ _ ⟨Cond.after_iff.mpr rfl, Cond.after_iff.mpr (eq_i res_at (Term.int_eval (1)) rfl), trivial⟩ ⟨hq.1, hq.2.1, (hq.2.2.sift fun y hy => Or.inr (N y hy)).mono (by decide) (by decide)⟩⟩
theorem main_1_1 : Claimed_1_1 := comes_1 fun _ _ _ _ _ _ h hF => ⟨h.1, hF⟩
theorem main_1_2 : Claimed_1_2 := comes_1 fun _ _ _ _ _ _ h hF => ⟨h.2.1, hF⟩
end Jvm.Pilot.@@N@@
namespace Jvm.Pilot.@@N@@
open Jvm Jvm.ClassFile Sem Op Lib Jvm.Free Jvm.Stand Jvm.Pilot.@@N@@.Jvm.D
/-! MADE BY PROGRAM (witnessworld.py) out of the Statement's table words and the real class files: 9 classes; the members and pool entries that the words name. The judged class is class 1, her method 1. -/
namespace start1
open Jvm.ClassFile
def u (s : String) : CpInfo := .utf8 (stringToUtf16 s)
/-- a pool by its gaps: so many unusable entries, then the entry; so many at the end -/
def gap : Nat → List CpInfo → List CpInfo
  | 0, r => r
  | n + 1, r => .unusable :: gap n r
def poolList (es : List (Nat × CpInfo)) (last : Nat) : List CpInfo := es.foldr (fun e r => gap e.1 (e.2 :: r)) (gap last [])
def pool (es : List (Nat × CpInfo)) (last : Nat) : Array CpInfo := ⟨poolList es last⟩
def fileOf (pool : Array CpInfo) (this : Nat) (attrs : Array Attribute := #[]) (ms : Array MethodInfo := #[]) (fl : Nat := 33) (sup : Nat := 0) (ifs : Array Nat := #[]) (fds : Array FieldInfo := #[]) : ClassFile where
  minorVersion := 0
  majorVersion := 65
  constantPool := pool
  accessFlags := fl
  thisClass := this
  superClass := sup
  interfaces := ifs
  fields := fds
  methods := ms
  attributes := attrs
def plain (name : String) (sup : Option ClassId) : Class where
  name := name
  kind := .ordinary
  loader := none
  accessFlags := 33
  super := sup
  interfaces := #[]
  cf := none
  fields := #[]
  methods := #[]
  instanceTypes := #[]
  staticTypes := #[]
  resolved := #[]
  callSites := []
  init := .initialized
  statics := none
  mirror := none

def pool0 : Array CpInfo := pool [(5, u "<init>"), (0, u "()V"), (1, .class_ 10), (1, u "java/lang/Object")] 113

def k0m0 : Method := { name := "<init>", desc := "()V", sig := { parameters := [], returnType := none }, accessFlags := 1, code := none }
/-- java/lang/Object -/
def k0 : Class := { plain "java/lang/Object" none with
  accessFlags := 33
  interfaces := #[]
  cf := some (fileOf pool0 8 #[] #[{ accessFlags := 1, nameIndex := 5, descriptorIndex := 6, attributes := #[] }] 33 0 #[] #[])
  fields := #[]
  methods := #[k0m0]
  instanceTypes := #[]
  staticTypes := #[]
  resolved := Array.replicate 124 none
  statics := none }

def pool1 : Array CpInfo := pool [(2, .class_ 4), (1, u "java/lang/Object"), (0, u "<init>"), (0, u "()V"), (0, .integer 2147483647), (0, .methodref 9 10), (0, .class_ 11), (0, .nameAndType 12 13), (0, u "com/example/leafweight/leafweight/BlockCode"), (0, u "count"), (0, u "([BII)[I"), (0, .methodref 15 16), (0, .class_ 17), (0, .nameAndType 18 19), (0, u "com/example/leafweight/leafweight/BlockCodeCountPinLaw"), (0, u "ref"), (0, u "([BIII)I"), (0, .methodref 15 21), (0, .nameAndType 22 23), (0, u "hit"), (0, u "([BIIII)I"), (2, u "law"), (0, u "(IIII)Z")] 7

def k1m0 : Method := { name := "<init>", desc := "()V", sig := { parameters := [], returnType := none }, accessFlags := 1, code := none }
def k1c1 : Code := { maxStack := 5, maxLocals := 13, code := code, exceptionTable := #[], attributes := #[] }
def k1m1 : Method := { name := "law", desc := "(IIII)Z", sig := { parameters := [.int, .int, .int, .int], returnType := some .boolean }, accessFlags := 9, code := some k1c1 }
def k1c2 : Code := { maxStack := 3, maxLocals := 5, code := method_3_code, exceptionTable := #[], attributes := #[] }
def k1m2 : Method := { name := "hit", desc := "([BIIII)I", sig := { parameters := [(.array .byte), .int, .int, .int, .int], returnType := some .int }, accessFlags := 10, code := some k1c2 }
def k1c3 : Code := { maxStack := 6, maxLocals := 4, code := method_4_code, exceptionTable := #[], attributes := #[] }
def k1m3 : Method := { name := "ref", desc := "([BIII)I", sig := { parameters := [(.array .byte), .int, .int, .int], returnType := some .int }, accessFlags := 10, code := some k1c3 }
/-- com/example/leafweight/leafweight/BlockCodeCountPinLaw -/
def k1 : Class := { plain "com/example/leafweight/leafweight/BlockCodeCountPinLaw" (some 0) with
  accessFlags := 49
  interfaces := #[]
  cf := some (fileOf pool1 15 #[] #[{ accessFlags := 1, nameIndex := 5, descriptorIndex := 6, attributes := #[] }, { accessFlags := 9, nameIndex := 26, descriptorIndex := 27, attributes := #[] }, { accessFlags := 10, nameIndex := 22, descriptorIndex := 23, attributes := #[] }, { accessFlags := 10, nameIndex := 18, descriptorIndex := 19, attributes := #[] }] 49 2 #[] #[])
  fields := #[]
  methods := #[k1m0, k1m1, k1m2, k1m3]
  instanceTypes := #[]
  staticTypes := #[]
  resolved := Array.replicate 35 none
  statics := none }

def pool2 : Array CpInfo := pool [(2, .class_ 4), (1, u "java/lang/Object"), (3, .class_ 10), (1, u "com/example/leafweight/leafweight/BlockCode"), (0, u "counts"), (0, u "[I"), (2, u "length"), (0, u "I"), (2, u "type"), (0, u "Lcom/example/leafweight/leafweight/BlockType;"), (2, u "huffman"), (0, u "Lcom/example/leafweight/leafweight/HuffmanCode;"), (2, u "table"), (0, u "Lcom/example/leafweight/leafweight/CodeLengthTable;"), (2, u "payloadBits"), (0, u "J"), (2, u "size"), (59, u "count"), (0, u "([BII)[I")] 7

def k2c0 : Code := { maxStack := 4, maxLocals := 5, code := prog_9_method_3_code, exceptionTable := #[], attributes := #[] }
def k2m0 : Method := { name := "count", desc := "([BII)[I", sig := { parameters := [(.array .byte), .int, .int], returnType := some (.array .int) }, accessFlags := 8, code := some k2c0 }
/-- com/example/leafweight/leafweight/BlockCode -/
def k2 : Class := { plain "com/example/leafweight/leafweight/BlockCode" (some 0) with
  accessFlags := 48
  interfaces := #[]
  cf := some (fileOf pool2 8 #[] #[{ accessFlags := 8, nameIndex := 95, descriptorIndex := 96, attributes := #[] }] 48 2 #[] #[{ accessFlags := 18, nameIndex := 11, descriptorIndex := 12, attributes := #[] }, { accessFlags := 18, nameIndex := 15, descriptorIndex := 16, attributes := #[] }, { accessFlags := 18, nameIndex := 19, descriptorIndex := 20, attributes := #[] }, { accessFlags := 18, nameIndex := 23, descriptorIndex := 24, attributes := #[] }, { accessFlags := 18, nameIndex := 27, descriptorIndex := 28, attributes := #[] }, { accessFlags := 18, nameIndex := 31, descriptorIndex := 32, attributes := #[] }, { accessFlags := 18, nameIndex := 35, descriptorIndex := 32, attributes := #[] }])
  fields := #[{ name := "counts", type := (.array .int), accessFlags := 18, slot := 0, constantValue := 0 }, { name := "length", type := .int, accessFlags := 18, slot := 1, constantValue := 0 }, { name := "type", type := (.object "com/example/leafweight/leafweight/BlockType"), accessFlags := 18, slot := 2, constantValue := 0 }, { name := "huffman", type := (.object "com/example/leafweight/leafweight/HuffmanCode"), accessFlags := 18, slot := 3, constantValue := 0 }, { name := "table", type := (.object "com/example/leafweight/leafweight/CodeLengthTable"), accessFlags := 18, slot := 4, constantValue := 0 }, { name := "payloadBits", type := .long, accessFlags := 18, slot := 5, constantValue := 0 }, { name := "size", type := .long, accessFlags := 18, slot := 6, constantValue := 0 }]
  methods := #[k2m0]
  instanceTypes := #[(.array .int), .int, (.object "com/example/leafweight/leafweight/BlockType"), (.object "com/example/leafweight/leafweight/HuffmanCode"), (.object "com/example/leafweight/leafweight/CodeLengthTable"), .long, .long]
  staticTypes := #[]
  resolved := Array.replicate 104 none
  statics := none }

def pool3 : Array CpInfo := pool [(1, u "java/lang/Cloneable"), (0, .class_ 1), (0, u "java/lang/Object"), (0, .class_ 3)] 3

/-- java/lang/Cloneable -/
def k3 : Class := { plain "java/lang/Cloneable" (some 0) with
  accessFlags := 1537
  interfaces := #[]
  cf := some (fileOf pool3 2 #[] #[] 1537 4 #[] #[])
  fields := #[]
  methods := #[]
  instanceTypes := #[]
  staticTypes := #[]
  resolved := Array.replicate 8 none
  statics := none }

def pool4 : Array CpInfo := pool [(1, u "java/io/Serializable"), (0, .class_ 1), (0, u "java/lang/Object"), (0, .class_ 3)] 3

/-- java/io/Serializable -/
def k4 : Class := { plain "java/io/Serializable" (some 0) with
  accessFlags := 1537
  interfaces := #[]
  cf := some (fileOf pool4 2 #[] #[] 1537 4 #[] #[])
  fields := #[]
  methods := #[]
  instanceTypes := #[]
  staticTypes := #[]
  resolved := Array.replicate 8 none
  statics := none }

/-- the primitive byte -/
def k5 : Class := { plain "byte" none with kind := .primitive 'B', accessFlags := 0x411 }
/-- [B -/
def k6 : Class := { plain "[B" (some 0) with kind := .array 5 .byte, interfaces := #[3, 4], accessFlags := 1041 }

/-- the primitive int -/
def k7 : Class := { plain "int" none with kind := .primitive 'I', accessFlags := 0x411 }
/-- [I -/
def k8 : Class := { plain "[I" (some 0) with kind := .array 7 .int, interfaces := #[3, 4], accessFlags := 1041 }

def heap : Heap := #[]
def classes : Array Class := #[k0, k1, k2, k3, k4, k5, k6, k7, k8]
def interned : List (Array UInt16 × Addr) := []
def slotsUsed : Nat := 0
def theMethod : MethodId := ⟨1, 1⟩
def args0 : Array Value := #[.int 5, .int 9, .int 7, .int 0]
def aboutOver (below : List Frame) : State where
  vm := { classes := classes, interned := interned.toArray }
  heap := heap
  slotsUsed := slotsUsed
  threads := #[{ frames := .invoking theMethod args0 :: below }]
def below0 : List Frame := [.native { method := ⟨0, 0⟩, args := #[] }]
def about1 : State := aboutOver below0
def p0 : Program := .bare "" "" ""
def e0 : Env := launch0.env 0 0 0
theorem w_frames : about1.frames = Frame.invoking theMethod args0 :: below0 := rfl
set_option maxRecDepth 65536 in
theorem w_args : argsFit about1.vm theMethod args0 = true := by decide +kernel
set_option maxRecDepth 65536 in
theorem w_heap : heapFits about1 = true := by decide +kernel
set_option maxRecDepth 65536 in
theorem w_runnable : about1.curStatus? = some .runnable := by decide +kernel
set_option maxRecDepth 65536 in
theorem w_alone : about1.alone = true := by decide +kernel
set_option maxRecDepth 65536 in
theorem w_named : about1.methodNamed? x = some theMethod := by decide +kernel
set_option maxRecDepth 65536 in
theorem w_hears : about1.hears theMethod below0 = true := by decide +kernel
set_option maxRecDepth 65536 in
theorem w_ripe : about1.ripe theMethod args0 below0 = true := by decide +kernel
theorem w_running : about1.status = .running := rfl
set_option maxRecDepth 65536 in
theorem w_room : about1.hasRoom e0.platform room_1 = true :=
  launch0.hasRoom_least _ room_1 (by decide +kernel) (by decide +kernel) (by decide +kernel) (by decide +kernel) (by decide +kernel) (by decide +kernel)
theorem allAtoms_all (ts : List Jvm.Cond) (a : Array Jvm.Value) (st : Jvm.State) : (allAtoms ts).before a st = ts.all (fun c => c.before a st) := by
  induction ts with
  | nil => rfl
  | cons c t ih =>
    show (Jvm.Cond.and c (allAtoms t)).before a st = _
    rw [Jvm.Cond.before_and, ih, List.all_cons]
def words1 : List Jvm.Cond := Jvm.Cond.code x code maxLocals ret :: tables_1
/-- a 'code' word, met by the world's own term for the bytes: nothing is compared byte by byte -/
theorem code_word {y : MethodName} {bytes : ByteArray} {mx : Nat} {rt : Option FieldType} {a : Array Value} {s : State} {m : MethodId} {meth : Method} {c : Code} (h1 : s.methodNamed? y = some m) (h2 : s.vm.method? m = some meth) (h3 : meth.code = some c) (h4 : c.code = bytes)
    (h5 : (c.maxLocals == mx && c.exceptionTable.isEmpty && decide (c.maxStack ≤ mostOperands) && decide (meth.sig.returnType = rt) && !meth.locks && decide (parseMethodDescriptor y.desc = some meth.sig)) = true) : (Jvm.Cond.code y bytes mx rt).before a s = true := by
  simp only [Bool.and_eq_true, beq_iff_eq, Bool.not_eq_true', decide_eq_true_eq] at h5
  obtain ⟨⟨⟨⟨⟨g1, g2⟩, g3⟩, g4⟩, g5⟩, g6⟩ := h5
  simp [Cond.before, Cond.holds, Cond.value, h1, h2, h3, h4, g1, g2, g3, g4, g5, g6]
def isCode : Jvm.Cond → Bool
  | .code _ _ _ _ => true
  | _ => false
theorem all_split {L : List Jvm.Cond} {P : Jvm.Cond → Bool} (h1 : L.all (fun c => isCode c || P c) = true) (h2 : ∀ c ∈ L.filter isCode, P c = true) : L.all P = true := by
  refine List.all_eq_true.mpr fun c hc => ?_
  have h := List.all_eq_true.mp h1 c hc
  rcases Bool.eq_false_or_eq_true (isCode c) with hi | hi
  · exact h2 c (List.mem_filter.mpr ⟨hc, hi⟩)
  · simpa [hi] using h
set_option maxRecDepth 65536 in
theorem w_c0 : (Jvm.Cond.code x code maxLocals ret).before args0 about1 = true := code_word (m := ⟨1, 1⟩) (meth := k1m1) (c := k1c1) (by decide +kernel) rfl rfl rfl (by decide +kernel)
set_option maxRecDepth 65536 in
theorem w_c1 : (Jvm.Cond.code ({ cls := "com/example/leafweight/leafweight/BlockCode", name := "count", desc := "([BII)[I" } : Jvm.MethodName) prog_9_method_3_code (5 : Nat) (Option.some (Jvm.ClassFile.FieldType.array Jvm.ClassFile.FieldType.int))).before args0 about1 = true := code_word (m := ⟨2, 0⟩) (meth := k2m0) (c := k2c0) (by decide +kernel) rfl rfl rfl (by decide +kernel)
set_option maxRecDepth 65536 in
theorem w_c2 : (Jvm.Cond.code ({ cls := "com/example/leafweight/leafweight/BlockCodeCountPinLaw", name := "ref", desc := "([BIII)I" } : Jvm.MethodName) method_4_code (4 : Nat) (Option.some Jvm.ClassFile.FieldType.int)).before args0 about1 = true := code_word (m := ⟨1, 3⟩) (meth := k1m3) (c := k1c3) (by decide +kernel) rfl rfl rfl (by decide +kernel)
set_option maxRecDepth 65536 in
theorem w_c3 : (Jvm.Cond.code ({ cls := "com/example/leafweight/leafweight/BlockCodeCountPinLaw", name := "hit", desc := "([BIIII)I" } : Jvm.MethodName) method_3_code (5 : Nat) (Option.some Jvm.ClassFile.FieldType.int)).before args0 about1 = true := code_word (m := ⟨1, 2⟩) (meth := k1m2) (c := k1c2) (by decide +kernel) rfl rfl rfl (by decide +kernel)
def codes1 : List Jvm.Cond := [Jvm.Cond.code x code maxLocals ret, Jvm.Cond.code ({ cls := "com/example/leafweight/leafweight/BlockCode", name := "count", desc := "([BII)[I" } : Jvm.MethodName) prog_9_method_3_code (5 : Nat) (Option.some (Jvm.ClassFile.FieldType.array Jvm.ClassFile.FieldType.int)), Jvm.Cond.code ({ cls := "com/example/leafweight/leafweight/BlockCodeCountPinLaw", name := "ref", desc := "([BIII)I" } : Jvm.MethodName) method_4_code (4 : Nat) (Option.some Jvm.ClassFile.FieldType.int), Jvm.Cond.code ({ cls := "com/example/leafweight/leafweight/BlockCodeCountPinLaw", name := "hit", desc := "([BIIII)I" } : Jvm.MethodName) method_3_code (5 : Nat) (Option.some Jvm.ClassFile.FieldType.int)]
set_option maxRecDepth 65536 in
theorem codes_eq : words1.filter isCode = codes1 := rfl
theorem w_codes : ∀ c ∈ words1.filter isCode, c.before args0 about1 = true := by
  rw [codes_eq]
  intro c hc
  simp only [codes1, List.mem_cons, List.not_mem_nil, or_false] at hc
  rcases hc with rfl | rfl | rfl | rfl
  · exact w_c0
  · exact w_c1
  · exact w_c2
  · exact w_c3
set_option maxRecDepth 65536 in
theorem w_t1 : words1.all (fun c => isCode c || c.before args0 about1) = true := by decide +kernel
theorem w_tables : (allAtoms (Jvm.Cond.code x code maxLocals ret :: tables_1)).before args0 about1 = true := by
  rw [allAtoms_all]
  show words1.all (fun c => c.before args0 about1) = true
  refine all_split ?_ w_codes
  rw [w_t1]
set_option maxRecDepth 65536 in
theorem w_case : (Jvm.Cond.and given_1 narrow_1).before args0 about1 = true := by decide +kernel
theorem w_applies : (headSpec (Jvm.Cond.code x code maxLocals ret :: tables_1) room_1).applies x e0.platform about1 = true :=
  (Spec.applies_iff w_frames).mpr ⟨w_running, w_runnable, w_alone, w_named, w_hears, w_ripe, w_room, w_tables⟩
theorem atStart : AtStart classFile x code maxLocals ret World_1 tables_1 room_1 Calls_1 rest_1 Pre_1 launch0 p0 e0 about1 theMethod args0 below0 :=
  ⟨lists_1, trivial, launch0.admits_env _ _ _, launch0.least_env, fairChoices_fair.cas, fairChoices_fair.clock, w_frames, w_args, w_heap, w_applies, trivial, trivial, w_case⟩
end start1
theorem witness_1 : WitnessClaimed_1 := ⟨start1.p0, start1.e0, start1.about1, start1.theMethod, start1.args0, start1.below0, start1.atStart⟩
end Jvm.Pilot.@@N@@

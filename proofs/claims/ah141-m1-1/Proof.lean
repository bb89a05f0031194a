import JvmDerived
import JvmDerived.Pilot.@@N@@Statement
import JvmDerived.Pilot.@@N@@Code
set_option linter.unusedVariables false
set_option linter.unusedSimpArgs false
@@BLOCK:NumsL.lean.txt@@
namespace Jvm.RoadKit
open Sem ClassFile Op Lib Jvm.Stand Jvm.Free Jvm.LawKit
section New
variable {p : Program} {l : Launch} {e : Env} {R : Room} {s : State} {m : MethodId} {args : Array Value} {below : List Frame} {meth : Method} {c : Code} {T : State} {locs : List Loc} {cells slots : Nat}
theorem retI (X : Stand p l e R s m args below meth c T locs cells slots) (hx : p.tables.exec = Jvm.exec) {pc : Nat} {Ls : Array Slot} {z : Int32} {rest : List Value} (hret : meth.sig.returnType = some .int) (hd : decode c.code pc = .ok (.ireturn, 1)) {fs : List Frame}
    (hl : ∀ (f : JFrame) (acts : List Action), f.method = m → f.locked = none → f.entered = [] → (doReturn e (T.setTop f) acts (some (.int z))).1 = T.setFrames fs) : Steps p.tables e below (T.setTop (mkF m pc Ls (.int z :: rest))) (T.setFrames fs) := by
  have hm' : T.vm.method? m = some meth := X.method'
  have hn : narrow .int (.int z) = .int z := rfl
  show Steps p.tables e below (T.setTop { method := m, pc := pc, locals := Ls, stack := _ :: rest, locked := none }) _
  jvm_step X.here [X.here.top, hx, hd, hm', hret, hn]
  first | (intro acts; rw [hl _ acts rfl rfl rfl]) | rw [hl _ _ rfl rfl rfl]
  exact Steps.refl _
end New
end Jvm.RoadKit
namespace Jvm.Pilot.@@N@@
open Jvm Jvm.ClassFile Sem Op Lib Jvm.Free Jvm.Stand Jvm.LawKit Jvm.RoadKit Bundle Jvm.Pilot.@@N@@.Jvm.D
theorem own_nat {n : Nat} (h : n < 1000) : (Int32.ofNat n).toInt = n := Int32.toInt_ofNat_of_lt (by omega)
theorem own_in {j : Int32} {n : Nat} (h : j.toInt = n) (q : n < 16) : ¬ j < 0 ∧ j < (16 : Int32) ∧ j.toNatClampNeg = n := by
  have k0 : (0 : Int32).toInt = 0 := by decide
  have k1 : (16 : Int32).toInt = 16 := by decide
  refine ⟨by rw [Int32.lt_iff_toInt_lt, k0]; omega, by rw [Int32.lt_iff_toInt_lt, k1]; omega, ?_⟩
  show j.toInt.toNat = n
  omega
theorem own_add {o i : Nat} (h : o < 500) (q : i < 500) : (Int32.ofNat o + Int32.ofNat i).toInt = ((o + i : Nat) : Int) := by
  rw [Jvm.Kit.i32_add (by rw [own_nat (by omega), own_nat (by omega)]; omega) (by rw [own_nat (by omega), own_nat (by omega)]; omega), own_nat (by omega), own_nat (by omega)]; omega
theorem own_ltn {i n : Nat} (hi : i < 500) (hn : n < 500) : Int32.ofNat i < Int32.ofNat n ↔ i < n := by
  rw [Int32.lt_iff_toInt_lt, own_nat (by omega), own_nat (by omega)]; omega
theorem own_sub {o n : Nat} (h : o + n < 500) : (Int32.ofNat (o + n) - Int32.ofNat o) = Int32.ofNat n := Int32.toInt_inj.mp (by
  rw [Jvm.Kit.i32_sub (by rw [own_nat (by omega), own_nat (by omega)]; omega) (by rw [own_nat (by omega), own_nat (by omega)]; omega), own_nat (by omega), own_nat (by omega), own_nat (by omega)]; omega)
theorem own_dn {a k : Nat} (h : a < 500) (hk : k < a) : (Int32.ofNat (a - k) - (1 : Int32)).toInt = ((a - 1 - k : Nat) : Int) := by
  have k1 : (1 : Int32).toInt = 1 := by decide
  rw [Jvm.Kit.i32_sub (by rw [own_nat (by omega)]; omega) (by rw [own_nat (by omega)]; omega), own_nat (by omega), k1]; omega
theorem own_dn' {a k : Nat} (h : a < 500) (hk : k ≤ a) : (Int32.ofNat (a - k) - (1 : Int32)).toInt = (a : Int) - k - 1 := by
  have k1 : (1 : Int32).toInt = 1 := by decide
  rw [Jvm.Kit.i32_sub (by rw [own_nat (by omega)]; omega) (by rw [own_nat (by omega)]; omega), own_nat (by omega), k1]; omega
theorem own_dstep {a k : Nat} (h : a < 500) (hk : k < a) : (Int32.ofNat (a - k) - (1 : Int32)) + (-1 : Int32) = (Int32.ofNat (a - (k + 1)) - (1 : Int32)) := Int32.toInt_inj.mp (by
  have k1 : (-1 : Int32).toInt = -1 := by decide
  have e := own_dn' (a := a) (k := k) h (by omega)
  have e' := own_dn' (a := a) (k := k + 1) h (by omega)
  rw [e', Jvm.Kit.i32_add (by rw [e, k1]; omega) (by rw [e, k1]; omega), e, k1]; omega)
def own_S (D : Nat → Int32) (a : Nat) : Nat → Int64
  | 0 => (0 : Int64)
  | k + 1 => ((own_S D a k) <<< ((8 : Int32) &&& 0x3f).toInt64) ||| (((D (a - 1 - k)) &&& (255 : Int32)).toInt64)
def own_H (D : Nat → Int32) (o : Nat) : Nat → Int64
  | 0 => (0 : Int64)
  | k + 1 => ((31 : Int64) * own_H D o k) + ((D (o + k)).toInt64)
theorem d2_0 : decode method_3_code 0 = .ok (.iload_n 3, 1) := by decide +kernel
theorem d2_1 : decode method_3_code 1 = .ok (.iload_n 2, 1) := by decide +kernel
theorem d2_2 : decode method_3_code 2 = .ok (.if_icmp .ge 19, 3) := by decide +kernel
theorem d2_5 : decode method_3_code 5 = .ok (.aload_n 0, 1) := by decide +kernel
theorem d2_6 : decode method_3_code 6 = .ok (.iload_n 1, 1) := by decide +kernel
theorem d2_7 : decode method_3_code 7 = .ok (.iload_n 3, 1) := by decide +kernel
theorem d2_8 : decode method_3_code 8 = .ok (.iadd, 1) := by decide +kernel
theorem d2_9 : decode method_3_code 9 = .ok (.baload, 1) := by decide +kernel
theorem d2_10 : decode method_3_code 10 = .ok (.sipush 255, 3) := by decide +kernel
theorem d2_13 : decode method_3_code 13 = .ok (.iand, 1) := by decide +kernel
theorem d2_14 : decode method_3_code 14 = .ok (.i2l, 1) := by decide +kernel
theorem d2_15 : decode method_3_code 15 = .ok (.bipush 8, 2) := by decide +kernel
theorem d2_17 : decode method_3_code 17 = .ok (.iload_n 3, 1) := by decide +kernel
theorem d2_18 : decode method_3_code 18 = .ok (.imul, 1) := by decide +kernel
theorem d2_19 : decode method_3_code 19 = .ok (.lshl, 1) := by decide +kernel
theorem d2_20 : decode method_3_code 20 = .ok (.lreturn, 1) := by decide +kernel
theorem d2_21 : decode method_3_code 21 = .ok (.lconst 0, 1) := by decide +kernel
theorem d2_22 : decode method_3_code 22 = .ok (.lreturn, 1) := by decide +kernel
theorem pn_2 : plainName "com/example/attestry/attestry/ParticipantNamesKeyPinLaw" = true := by first | (simp [plainName, overriddenIn]; done) | decide +kernel
theorem pd_0 : parseMethodDescriptor "([BII)J" = some ⟨[(.array .byte), .int, .int], some .long⟩ := by decide +kernel
theorem pd_1 : parseMethodDescriptor "([BIII)J" = some ⟨[(.array .byte), .int, .int, .int], some .long⟩ := by decide +kernel
theorem pd_2 : parseMethodDescriptor "(J[BIII)J" = some ⟨[.long, (.array .byte), .int, .int, .int], some .long⟩ := by decide +kernel
theorem ef_2 (m : MethodId) (x0 : Addr) (x1 : Int32) (x2 : Int32) (x3 : Int32) : entryFrame m #[(.ref x0), (.int x1), (.int x2), (.int x3)] 4 = mkF m 0 #[.val (.ref x0), .val (.int x1), .val (.int x2), .val (.int x3)] [] := by first | (simp [entryFrame, mkF, argsToLocals, Value.category]; done) | rfl
def f2 (o : Nat) (n : Nat) (i : Nat) (D : Nat → Int32) : Int64 := if (Int32.ofNat i) < (Int32.ofNat n) then ((((D (o + i)) &&& (255 : Int32)).toInt64) <<< (((8 : Int32) * (Int32.ofNat i)) &&& 0x3f).toInt64) else (0 : Int64)
def Q2 (o : Nat) (n : Nat) (i : Nat) (D : Nat → Int32) (h0 : Heap) (n0 : Nat) (v : Option Value) (h : Heap) (L : List Loc) : Prop := v = some (.long (f2 o n i D)) ∧ Fr n0 L ∧ h = h0
set_option maxRecDepth 65536 in
set_option maxHeartbeats 40000000 in
theorem rm2 (l : Launch) (Z : State) (aZ : Array Value) (hw : ∀ d ∈ tables_1, d.before aZ Z = true) (ws : List Jvm.Cond) (a0 : Addr) (o n i : Nat) (kd : ClassId) (vs : List Value) (D : Nat → Int32) (h0 : Heap) (n0 : Nat) (Z0 : n0 ≤ h0.size) (V_a : Arv Z h0 a0 kd .byte (16 : Int32) vs (.int (0 : Int32))) (hD : ∀ k, k < 16 → vs.getD k (.int (0 : Int32)) = .int (D k)) (hon : o + n ≤ 16) (hi : i < 100) :
    MetFree l (⟨"com/example/attestry/attestry/ParticipantNamesKeyPinLaw", "part", "([BIII)J"⟩ : MethodName) (head1 (Jvm.Cond.code (⟨"com/example/attestry/attestry/ParticipantNamesKeyPinLaw", "part", "([BIII)J"⟩ : MethodName) method_3_code 4 (some .long) :: ws) ({ frames := 0, cells := 0, slots := 0, locals := 0 } : Room)) (fun a U => a = #[(.ref a0), (.int (Int32.ofNat o)), (.int (Int32.ofNat n)), (.int (Int32.ofNat i))] ∧ Z.Warmed39 U.vm ∧ U.heap = h0) (fun _ _ _ _ _ => True) (fun _ U oc U' => ∃ v L, oc = .returned v ∧ Q2 o n i D h0 n0 v U'.heap L ∧ FrameEnd U oc U' L ({ frames := 0, cells := 0, slots := 0, locals := 0 } : Room).cells ({ frames := 0, cells := 0, slots := 0, locals := 0 } : Room).slots) := by
  refine MetFree.of_bodySF (plainFor_of_name pn_2) hisR ?_
  intro p e s m args below meth c s₁ Bd hml0 hP hK
  obtain ⟨rfl, hZ, hh⟩ := hP
  have hx := Bd.exec
  have hby := Bd.bytes
  have hml : c.maxLocals = 4 := hml0
  have hown : s.vm.findClass "com/example/attestry/attestry/ParticipantNamesKeyPinLaw" = some m.cls := findClass_of_methodNamed Bd.named
  have hnm := (name_of_methodNamed Bd.named Bd.method).1
  have X0 : Stand p l e ({ frames := 0, cells := 0, slots := 0, locals := 0 } : Room) s m #[(.ref a0), (.int (Int32.ofNat o)), (.int (Int32.ofNat n)), (.int (Int32.ofNat i))] below meth c s₁ [] 0 0 := Stand.of_body Bd
  have e0 : s₁.heap = h0 := by rw [← hh, Bd.state]; rfl
  have N0 := Fr.nil n0
  have pre0 : ∀ t, Steps p.tables e below (s₁.setTop (mkF m 0 #[.val (.ref a0), .val (.int (Int32.ofNat o)), .val (.int (Int32.ofNat n)), .val (.int (Int32.ofNat i))] [])) t → Steps p.tables e below (s₁.setTop (entryFrame m #[(.ref a0), (.int (Int32.ofNat o)), (.int (Int32.ofNat n)), (.int (Int32.ofNat i))] 4)) t := fun t kt => castTop (ef_2 m a0 (Int32.ofNat o) (Int32.ofNat n) (Int32.ofNat i)) kt
  have pre10 : ∀ t, Steps p.tables e below (s₁.setTop (mkF m 2 #[.val (.ref a0), .val (.int (Int32.ofNat o)), .val (.int (Int32.ofNat n)), .val (.int (Int32.ofNat i))] [(.int (Int32.ofNat n)), (.int (Int32.ofNat i))])) t → Steps p.tables e below (s₁.setTop (entryFrame m #[(.ref a0), (.int (Int32.ofNat o)), (.int (Int32.ofNat n)), (.int (Int32.ofNat i))] 4)) t := fun t kt => by
    refine pre0 _ ?_
    show Steps p.tables e below (s₁.setTop (mkF m 0 #[.val (.ref a0), .val (.int (Int32.ofNat o)), .val (.int (Int32.ofNat n)), .val (.int (Int32.ofNat i))] [])) _
    refine XS.iloadN X0.here hx rfl (hb hby d2_0) rfl ?_
    show Steps p.tables e below (s₁.setTop (mkF m 1 #[.val (.ref a0), .val (.int (Int32.ofNat o)), .val (.int (Int32.ofNat n)), .val (.int (Int32.ofNat i))] [(.int (Int32.ofNat i))])) _
    refine XS.iloadN X0.here hx rfl (hb hby d2_1) rfl ?_
    show Steps p.tables e below (s₁.setTop (mkF m 2 #[.val (.ref a0), .val (.int (Int32.ofNat o)), .val (.int (Int32.ofNat n)), .val (.int (Int32.ofNat i))] [(.int (Int32.ofNat n)), (.int (Int32.ofNat i))])) _
    exact kt
  by_cases c11 : (Int32.ofNat i) < (Int32.ofNat n)
  · have pre12 : ∀ t, Steps p.tables e below (s₁.setTop (mkF m 5 #[.val (.ref a0), .val (.int (Int32.ofNat o)), .val (.int (Int32.ofNat n)), .val (.int (Int32.ofNat i))] [])) t → Steps p.tables e below (s₁.setTop (entryFrame m #[(.ref a0), (.int (Int32.ofNat o)), (.int (Int32.ofNat n)), (.int (Int32.ofNat i))] 4)) t := fun t kt => by
      refine pre10 _ ?_
      show Steps p.tables e below (s₁.setTop (mkF m 2 #[.val (.ref a0), .val (.int (Int32.ofNat o)), .val (.int (Int32.ofNat n)), .val (.int (Int32.ofNat i))] [(.int (Int32.ofNat n)), (.int (Int32.ofNat i))])) _
      refine XS.icmpNo X0.here hx rfl (hb hby d2_2) rfl (tlt c11).2.1 ?_
      show Steps p.tables e below (s₁.setTop (mkF m 5 #[.val (.ref a0), .val (.int (Int32.ofNat o)), .val (.int (Int32.ofNat n)), .val (.int (Int32.ofNat i))] [])) _
      exact kt
    have pre13 : ∀ t, Steps p.tables e below (s₁.setTop (mkF m 9 #[.val (.ref a0), .val (.int (Int32.ofNat o)), .val (.int (Int32.ofNat n)), .val (.int (Int32.ofNat i))] [(.int ((Int32.ofNat o) + (Int32.ofNat i))), (.ref a0)])) t → Steps p.tables e below (s₁.setTop (entryFrame m #[(.ref a0), (.int (Int32.ofNat o)), (.int (Int32.ofNat n)), (.int (Int32.ofNat i))] 4)) t := fun t kt => by
      refine pre12 _ ?_
      show Steps p.tables e below (s₁.setTop (mkF m 5 #[.val (.ref a0), .val (.int (Int32.ofNat o)), .val (.int (Int32.ofNat n)), .val (.int (Int32.ofNat i))] [])) _
      refine XS.aloadN X0.here hx rfl (hb hby d2_5) rfl rfl ?_
      show Steps p.tables e below (s₁.setTop (mkF m 6 #[.val (.ref a0), .val (.int (Int32.ofNat o)), .val (.int (Int32.ofNat n)), .val (.int (Int32.ofNat i))] [(.ref a0)])) _
      refine XS.iloadN X0.here hx rfl (hb hby d2_6) rfl ?_
      show Steps p.tables e below (s₁.setTop (mkF m 7 #[.val (.ref a0), .val (.int (Int32.ofNat o)), .val (.int (Int32.ofNat n)), .val (.int (Int32.ofNat i))] [(.int (Int32.ofNat o)), (.ref a0)])) _
      refine XS.iloadN X0.here hx rfl (hb hby d2_7) rfl ?_
      show Steps p.tables e below (s₁.setTop (mkF m 8 #[.val (.ref a0), .val (.int (Int32.ofNat o)), .val (.int (Int32.ofNat n)), .val (.int (Int32.ofNat i))] [(.int (Int32.ofNat i)), (.int (Int32.ofNat o)), (.ref a0)])) _
      refine XS.iadd X0.here hx rfl (hb hby d2_8) rfl ?_
      show Steps p.tables e below (s₁.setTop (mkF m 9 #[.val (.ref a0), .val (.int (Int32.ofNat o)), .val (.int (Int32.ofNat n)), .val (.int (Int32.ofNat i))] [(.int ((Int32.ofNat o) + (Int32.ofNat i))), (.ref a0)])) _
      exact kt
    have hin := own_in (own_add (o := o) (i := i) (by omega) (by omega)) (by have := (own_ltn (by omega) (by omega)).mp c11; omega)
    have hlt : o + i < 16 := by have := (own_ltn (by omega) (by omega)).mp c11; omega
    have Vo_a0_14 := V_a
    obtain ⟨cl_a0_14, Ar_a0_14, q_a0_14, S_a0_14, M_a0_14, H_a0_14, G_a0_14⟩ := Vo_a0_14
    have hin14 : ¬ (((Int32.ofNat o) + (Int32.ofNat i)) < 0 ∨ cl_a0_14.slots.size ≤ (((Int32.ofNat o) + (Int32.ofNat i))).toNatClampNeg) := inb_of S_a0_14 ⟨hin.1, hin.2.1⟩
    have hat14 : cl_a0_14.slots[(((Int32.ofNat o) + (Int32.ofNat i))).toNatClampNeg]? = some (.int (D (o + i))) := H_a0_14.at (inb_of S_a0_14 ⟨hin.1, hin.2.1⟩) (by rw [hin.2.2]; exact hD _ hlt)
    have pre15 : ∀ t, Steps p.tables e below (s₁.setTop (mkF m 10 #[.val (.ref a0), .val (.int (Int32.ofNat o)), .val (.int (Int32.ofNat n)), .val (.int (Int32.ofNat i))] [(.int (D (o + i)))])) t → Steps p.tables e below (s₁.setTop (entryFrame m #[(.ref a0), (.int (Int32.ofNat o)), (.int (Int32.ofNat n)), (.int (Int32.ofNat i))] 4)) t := fun t kt => pre13 _ (X0.baloadBytes hx (j := ((Int32.ofNat o) + (Int32.ofNat i))) (v := (.int (D (o + i)))) (by rw [e0]; exact Ar_a0_14.1) (State.isArrayOf_alike hZ.alike Ar_a0_14.2.1) Ar_a0_14.2.2 hin14 hat14 (g := (mkF m 9 #[.val (.ref a0), .val (.int (Int32.ofNat o)), .val (.int (Int32.ofNat n)), .val (.int (Int32.ofNat i))] [(.int ((Int32.ofNat o) + (Int32.ofNat i))), (.ref a0)])) rfl rfl (hb hby d2_9) t kt)
    have pre16 : ∀ t, Steps p.tables e below (s₁.setTop (mkF m 20 #[.val (.ref a0), .val (.int (Int32.ofNat o)), .val (.int (Int32.ofNat n)), .val (.int (Int32.ofNat i))] [(.long ((((D (o + i)) &&& (255 : Int32)).toInt64) <<< (((8 : Int32) * (Int32.ofNat i)) &&& 0x3f).toInt64))])) t → Steps p.tables e below (s₁.setTop (entryFrame m #[(.ref a0), (.int (Int32.ofNat o)), (.int (Int32.ofNat n)), (.int (Int32.ofNat i))] 4)) t := fun t kt => by
      refine pre15 _ ?_
      show Steps p.tables e below (s₁.setTop (mkF m 10 #[.val (.ref a0), .val (.int (Int32.ofNat o)), .val (.int (Int32.ofNat n)), .val (.int (Int32.ofNat i))] [(.int (D (o + i)))])) _
      refine XS.sipush X0.here hx rfl (hb hby d2_10) ?_
      show Steps p.tables e below (s₁.setTop (mkF m 13 #[.val (.ref a0), .val (.int (Int32.ofNat o)), .val (.int (Int32.ofNat n)), .val (.int (Int32.ofNat i))] [(.int (255 : Int32)), (.int (D (o + i)))])) _
      refine XS.iand X0.here hx rfl (hb hby d2_13) rfl ?_
      show Steps p.tables e below (s₁.setTop (mkF m 14 #[.val (.ref a0), .val (.int (Int32.ofNat o)), .val (.int (Int32.ofNat n)), .val (.int (Int32.ofNat i))] [(.int ((D (o + i)) &&& (255 : Int32)))])) _
      refine XS.i2l X0.here hx rfl (hb hby d2_14) rfl ?_
      show Steps p.tables e below (s₁.setTop (mkF m 15 #[.val (.ref a0), .val (.int (Int32.ofNat o)), .val (.int (Int32.ofNat n)), .val (.int (Int32.ofNat i))] [(.long (((D (o + i)) &&& (255 : Int32)).toInt64))])) _
      refine XS.bipush X0.here hx rfl (hb hby d2_15) ?_
      show Steps p.tables e below (s₁.setTop (mkF m 17 #[.val (.ref a0), .val (.int (Int32.ofNat o)), .val (.int (Int32.ofNat n)), .val (.int (Int32.ofNat i))] [(.int (8 : Int32)), (.long (((D (o + i)) &&& (255 : Int32)).toInt64))])) _
      refine XS.iloadN X0.here hx rfl (hb hby d2_17) rfl ?_
      show Steps p.tables e below (s₁.setTop (mkF m 18 #[.val (.ref a0), .val (.int (Int32.ofNat o)), .val (.int (Int32.ofNat n)), .val (.int (Int32.ofNat i))] [(.int (Int32.ofNat i)), (.int (8 : Int32)), (.long (((D (o + i)) &&& (255 : Int32)).toInt64))])) _
      refine XS.imul X0.here hx rfl (hb hby d2_18) rfl ?_
      show Steps p.tables e below (s₁.setTop (mkF m 19 #[.val (.ref a0), .val (.int (Int32.ofNat o)), .val (.int (Int32.ofNat n)), .val (.int (Int32.ofNat i))] [(.int ((8 : Int32) * (Int32.ofNat i))), (.long (((D (o + i)) &&& (255 : Int32)).toInt64))])) _
      refine XS.lshl X0.here hx rfl (hb hby d2_19) rfl ?_
      show Steps p.tables e below (s₁.setTop (mkF m 20 #[.val (.ref a0), .val (.int (Int32.ofNat o)), .val (.int (Int32.ofNat n)), .val (.int (Int32.ofNat i))] [(.long ((((D (o + i)) &&& (255 : Int32)).toInt64) <<< (((8 : Int32) * (Int32.ofNat i)) &&& 0x3f).toInt64))])) _
      exact kt
    obtain ⟨fs, hr, hrun, hended, hW, hsame⟩ := X0.leave (v := some (.long ((((D (o + i)) &&& (255 : Int32)).toInt64) <<< (((8 : Int32) * (Int32.ofNat i)) &&& 0x3f).toInt64))) (fun h => by rw [Bd.returns] at h; cases h)
    refine ⟨_, _, pre16 _ ?_, hrun, hended, _, _, rfl, ?_, ⟨_, rfl⟩, hW, hsame.mono (by decide) (by decide)⟩
    · show Steps p.tables e below (s₁.setTop (mkF m 20 #[.val (.ref a0), .val (.int (Int32.ofNat o)), .val (.int (Int32.ofNat n)), .val (.int (Int32.ofNat i))] [(.long ((((D (o + i)) &&& (255 : Int32)).toInt64) <<< (((8 : Int32) * (Int32.ofNat i)) &&& 0x3f).toInt64))])) _
      exact Jvm.Stand.lreturnOut X0 hx Bd.returns (hb hby d2_20) hr
    · have hv : f2 o n i D = ((((D (o + i)) &&& (255 : Int32)).toInt64) <<< (((8 : Int32) * (Int32.ofNat i)) &&& 0x3f).toInt64) := by unfold f2; rw [if_pos c11]
      show Q2 o n i D h0 n0 _ s₁.heap _
      rw [e0]
      exact ⟨by rw [hv], N0, rfl⟩
  · have pre17 : ∀ t, Steps p.tables e below (s₁.setTop (mkF m 21 #[.val (.ref a0), .val (.int (Int32.ofNat o)), .val (.int (Int32.ofNat n)), .val (.int (Int32.ofNat i))] [])) t → Steps p.tables e below (s₁.setTop (entryFrame m #[(.ref a0), (.int (Int32.ofNat o)), (.int (Int32.ofNat n)), (.int (Int32.ofNat i))] 4)) t := fun t kt => by
      refine pre10 _ ?_
      show Steps p.tables e below (s₁.setTop (mkF m 2 #[.val (.ref a0), .val (.int (Int32.ofNat o)), .val (.int (Int32.ofNat n)), .val (.int (Int32.ofNat i))] [(.int (Int32.ofNat n)), (.int (Int32.ofNat i))])) _
      refine XS.icmpYes X0.here hx rfl (pc0 := 2) (pc' := 21) rfl (hb hby d2_2) rfl (flt c11).2.1 (by decide) (by decide) ?_
      show Steps p.tables e below (s₁.setTop (mkF m 21 #[.val (.ref a0), .val (.int (Int32.ofNat o)), .val (.int (Int32.ofNat n)), .val (.int (Int32.ofNat i))] [])) _
      exact kt
    have pre18 : ∀ t, Steps p.tables e below (s₁.setTop (mkF m 22 #[.val (.ref a0), .val (.int (Int32.ofNat o)), .val (.int (Int32.ofNat n)), .val (.int (Int32.ofNat i))] [(.long (0 : Int64))])) t → Steps p.tables e below (s₁.setTop (entryFrame m #[(.ref a0), (.int (Int32.ofNat o)), (.int (Int32.ofNat n)), (.int (Int32.ofNat i))] 4)) t := fun t kt => by
      refine pre17 _ ?_
      show Steps p.tables e below (s₁.setTop (mkF m 21 #[.val (.ref a0), .val (.int (Int32.ofNat o)), .val (.int (Int32.ofNat n)), .val (.int (Int32.ofNat i))] [])) _
      refine XS.lconst X0.here hx rfl (hb hby d2_21) ?_
      show Steps p.tables e below (s₁.setTop (mkF m 22 #[.val (.ref a0), .val (.int (Int32.ofNat o)), .val (.int (Int32.ofNat n)), .val (.int (Int32.ofNat i))] [(.long (0 : Int64))])) _
      exact kt
    obtain ⟨fs, hr, hrun, hended, hW, hsame⟩ := X0.leave (v := some (.long (0 : Int64))) (fun h => by rw [Bd.returns] at h; cases h)
    refine ⟨_, _, pre18 _ ?_, hrun, hended, _, _, rfl, ?_, ⟨_, rfl⟩, hW, hsame.mono (by decide) (by decide)⟩
    · show Steps p.tables e below (s₁.setTop (mkF m 22 #[.val (.ref a0), .val (.int (Int32.ofNat o)), .val (.int (Int32.ofNat n)), .val (.int (Int32.ofNat i))] [(.long (0 : Int64))])) _
      exact Jvm.Stand.lreturnOut X0 hx Bd.returns (hb hby d2_22) hr
    · have hv : f2 o n i D = (0 : Int64) := by unfold f2; rw [if_neg c11]
      show Q2 o n i D h0 n0 _ s₁.heap _
      rw [e0]
      exact ⟨by rw [hv], N0, rfl⟩
theorem d3_0 : decode method_4_code 0 = .ok (.iload 5, 2) := by decide +kernel
theorem d3_2 : decode method_4_code 2 = .ok (.iload 4, 2) := by decide +kernel
theorem d3_4 : decode method_4_code 4 = .ok (.if_icmp .ge 17, 3) := by decide +kernel
theorem d3_7 : decode method_4_code 7 = .ok (.ldc2_w 28, 3) := by decide +kernel
theorem d3_10 : decode method_4_code 10 = .ok (.lload_n 0, 1) := by decide +kernel
theorem d3_11 : decode method_4_code 11 = .ok (.lmul, 1) := by decide +kernel
theorem d3_12 : decode method_4_code 12 = .ok (.aload_n 2, 1) := by decide +kernel
theorem d3_13 : decode method_4_code 13 = .ok (.iload_n 3, 1) := by decide +kernel
theorem d3_14 : decode method_4_code 14 = .ok (.iload 5, 2) := by decide +kernel
theorem d3_16 : decode method_4_code 16 = .ok (.iadd, 1) := by decide +kernel
theorem d3_17 : decode method_4_code 17 = .ok (.baload, 1) := by decide +kernel
theorem d3_18 : decode method_4_code 18 = .ok (.i2l, 1) := by decide +kernel
theorem d3_19 : decode method_4_code 19 = .ok (.ladd, 1) := by decide +kernel
theorem d3_20 : decode method_4_code 20 = .ok (.lreturn, 1) := by decide +kernel
theorem d3_21 : decode method_4_code 21 = .ok (.lload_n 0, 1) := by decide +kernel
theorem d3_22 : decode method_4_code 22 = .ok (.lreturn, 1) := by decide +kernel
theorem ef_3 (m : MethodId) (x0 : Int64) (x1 : Addr) (x2 : Int32) (x3 : Int32) (x4 : Int32) : entryFrame m #[(.long x0), (.ref x1), (.int x2), (.int x3), (.int x4)] 6 = mkF m 0 #[.val (.long x0), .second, .val (.ref x1), .val (.int x2), .val (.int x3), .val (.int x4)] [] := by first | (simp [entryFrame, mkF, argsToLocals, Value.category]; done) | rfl
def f3 (q0 : Int64) (o : Nat) (n : Nat) (i : Nat) (D : Nat → Int32) : Int64 := if (Int32.ofNat i) < (Int32.ofNat n) then (((31 : Int64) * q0) + ((D (o + i)).toInt64)) else q0
def Q3 (q0 : Int64) (o : Nat) (n : Nat) (i : Nat) (D : Nat → Int32) (h0 : Heap) (n0 : Nat) (v : Option Value) (h : Heap) (L : List Loc) : Prop := v = some (.long (f3 q0 o n i D)) ∧ Fr n0 L ∧ h = h0
set_option maxRecDepth 65536 in
set_option maxHeartbeats 40000000 in
theorem rm3 (l : Launch) (Z : State) (aZ : Array Value) (hw : ∀ d ∈ tables_1, d.before aZ Z = true) (ws : List Jvm.Cond) (q0 : Int64) (a0 : Addr) (o n i : Nat) (kd : ClassId) (vs : List Value) (D : Nat → Int32) (h0 : Heap) (n0 : Nat) (Z0 : n0 ≤ h0.size) (V_a : Arv Z h0 a0 kd .byte (16 : Int32) vs (.int (0 : Int32))) (hD : ∀ k, k < 16 → vs.getD k (.int (0 : Int32)) = .int (D k)) (hon : o + n ≤ 16) (hi : i < 100) :
    MetFree l (⟨"com/example/attestry/attestry/ParticipantNamesKeyPinLaw", "step", "(J[BIII)J"⟩ : MethodName) (head1 (Jvm.Cond.code (⟨"com/example/attestry/attestry/ParticipantNamesKeyPinLaw", "step", "(J[BIII)J"⟩ : MethodName) method_4_code 6 (some .long) :: ws) ({ frames := 0, cells := 0, slots := 0, locals := 0 } : Room)) (fun a U => a = #[(.long q0), (.ref a0), (.int (Int32.ofNat o)), (.int (Int32.ofNat n)), (.int (Int32.ofNat i))] ∧ Z.Warmed39 U.vm ∧ U.heap = h0) (fun _ _ _ _ _ => True) (fun _ U oc U' => ∃ v L, oc = .returned v ∧ Q3 q0 o n i D h0 n0 v U'.heap L ∧ FrameEnd U oc U' L ({ frames := 0, cells := 0, slots := 0, locals := 0 } : Room).cells ({ frames := 0, cells := 0, slots := 0, locals := 0 } : Room).slots) := by
  refine MetFree.of_bodySF (plainFor_of_name pn_2) hisR ?_
  intro p e s m args below meth c s₁ Bd hml0 hP hK
  obtain ⟨rfl, hZ, hh⟩ := hP
  have hx := Bd.exec
  have hby := Bd.bytes
  have hml : c.maxLocals = 6 := hml0
  have hown : s.vm.findClass "com/example/attestry/attestry/ParticipantNamesKeyPinLaw" = some m.cls := findClass_of_methodNamed Bd.named
  have hnm := (name_of_methodNamed Bd.named Bd.method).1
  have X0 : Stand p l e ({ frames := 0, cells := 0, slots := 0, locals := 0 } : Room) s m #[(.long q0), (.ref a0), (.int (Int32.ofNat o)), (.int (Int32.ofNat n)), (.int (Int32.ofNat i))] below meth c s₁ [] 0 0 := Stand.of_body Bd
  have e0 : s₁.heap = h0 := by rw [← hh, Bd.state]; rfl
  have N0 := Fr.nil n0
  have pre0 : ∀ t, Steps p.tables e below (s₁.setTop (mkF m 0 #[.val (.long q0), .second, .val (.ref a0), .val (.int (Int32.ofNat o)), .val (.int (Int32.ofNat n)), .val (.int (Int32.ofNat i))] [])) t → Steps p.tables e below (s₁.setTop (entryFrame m #[(.long q0), (.ref a0), (.int (Int32.ofNat o)), (.int (Int32.ofNat n)), (.int (Int32.ofNat i))] 6)) t := fun t kt => castTop (ef_3 m q0 a0 (Int32.ofNat o) (Int32.ofNat n) (Int32.ofNat i)) kt
  have pre28 : ∀ t, Steps p.tables e below (s₁.setTop (mkF m 4 #[.val (.long q0), .second, .val (.ref a0), .val (.int (Int32.ofNat o)), .val (.int (Int32.ofNat n)), .val (.int (Int32.ofNat i))] [(.int (Int32.ofNat n)), (.int (Int32.ofNat i))])) t → Steps p.tables e below (s₁.setTop (entryFrame m #[(.long q0), (.ref a0), (.int (Int32.ofNat o)), (.int (Int32.ofNat n)), (.int (Int32.ofNat i))] 6)) t := fun t kt => by
    refine pre0 _ ?_
    show Steps p.tables e below (s₁.setTop (mkF m 0 #[.val (.long q0), .second, .val (.ref a0), .val (.int (Int32.ofNat o)), .val (.int (Int32.ofNat n)), .val (.int (Int32.ofNat i))] [])) _
    refine XS.iload X0.here hx rfl (hb hby d3_0) rfl ?_
    show Steps p.tables e below (s₁.setTop (mkF m 2 #[.val (.long q0), .second, .val (.ref a0), .val (.int (Int32.ofNat o)), .val (.int (Int32.ofNat n)), .val (.int (Int32.ofNat i))] [(.int (Int32.ofNat i))])) _
    refine XS.iload X0.here hx rfl (hb hby d3_2) rfl ?_
    show Steps p.tables e below (s₁.setTop (mkF m 4 #[.val (.long q0), .second, .val (.ref a0), .val (.int (Int32.ofNat o)), .val (.int (Int32.ofNat n)), .val (.int (Int32.ofNat i))] [(.int (Int32.ofNat n)), (.int (Int32.ofNat i))])) _
    exact kt
  by_cases c29 : (Int32.ofNat i) < (Int32.ofNat n)
  · have pre30 : ∀ t, Steps p.tables e below (s₁.setTop (mkF m 7 #[.val (.long q0), .second, .val (.ref a0), .val (.int (Int32.ofNat o)), .val (.int (Int32.ofNat n)), .val (.int (Int32.ofNat i))] [])) t → Steps p.tables e below (s₁.setTop (entryFrame m #[(.long q0), (.ref a0), (.int (Int32.ofNat o)), (.int (Int32.ofNat n)), (.int (Int32.ofNat i))] 6)) t := fun t kt => by
      refine pre28 _ ?_
      show Steps p.tables e below (s₁.setTop (mkF m 4 #[.val (.long q0), .second, .val (.ref a0), .val (.int (Int32.ofNat o)), .val (.int (Int32.ofNat n)), .val (.int (Int32.ofNat i))] [(.int (Int32.ofNat n)), (.int (Int32.ofNat i))])) _
      refine XS.icmpNo X0.here hx rfl (hb hby d3_4) rfl (tlt c29).2.1 ?_
      show Steps p.tables e below (s₁.setTop (mkF m 7 #[.val (.long q0), .second, .val (.ref a0), .val (.int (Int32.ofNat o)), .val (.int (Int32.ofNat n)), .val (.int (Int32.ofNat i))] [])) _
      exact kt
    have pre31 : ∀ t, Steps p.tables e below (s₁.setTop (mkF m 17 #[.val (.long q0), .second, .val (.ref a0), .val (.int (Int32.ofNat o)), .val (.int (Int32.ofNat n)), .val (.int (Int32.ofNat i))] [(.int ((Int32.ofNat o) + (Int32.ofNat i))), (.ref a0), (.long ((31 : Int64) * q0))])) t → Steps p.tables e below (s₁.setTop (entryFrame m #[(.long q0), (.ref a0), (.int (Int32.ofNat o)), (.int (Int32.ofNat n)), (.int (Int32.ofNat i))] 6)) t := fun t kt => by
      refine pre30 _ ?_
      show Steps p.tables e below (s₁.setTop (mkF m 7 #[.val (.long q0), .second, .val (.ref a0), .val (.int (Int32.ofNat o)), .val (.int (Int32.ofNat n)), .val (.int (Int32.ofNat i))] [])) _
      refine X0.ldc2Long hx hown (mvT hZ (hw _ (List.mem_of_getElem? (i := 16) rfl))) (g := (mkF m 7 #[.val (.long q0), .second, .val (.ref a0), .val (.int (Int32.ofNat o)), .val (.int (Int32.ofNat n)), .val (.int (Int32.ofNat i))] [])) rfl (hb hby d3_7) _ ?_
      show Steps p.tables e below (s₁.setTop (mkF m 10 #[.val (.long q0), .second, .val (.ref a0), .val (.int (Int32.ofNat o)), .val (.int (Int32.ofNat n)), .val (.int (Int32.ofNat i))] [(.long (31 : Int64))])) _
      refine XS.lloadN X0.here hx rfl (hb hby d3_10) rfl ?_
      show Steps p.tables e below (s₁.setTop (mkF m 11 #[.val (.long q0), .second, .val (.ref a0), .val (.int (Int32.ofNat o)), .val (.int (Int32.ofNat n)), .val (.int (Int32.ofNat i))] [(.long q0), (.long (31 : Int64))])) _
      refine XS.lmul X0.here hx rfl (hb hby d3_11) rfl ?_
      show Steps p.tables e below (s₁.setTop (mkF m 12 #[.val (.long q0), .second, .val (.ref a0), .val (.int (Int32.ofNat o)), .val (.int (Int32.ofNat n)), .val (.int (Int32.ofNat i))] [(.long ((31 : Int64) * q0))])) _
      refine XS.aloadN X0.here hx rfl (hb hby d3_12) rfl rfl ?_
      show Steps p.tables e below (s₁.setTop (mkF m 13 #[.val (.long q0), .second, .val (.ref a0), .val (.int (Int32.ofNat o)), .val (.int (Int32.ofNat n)), .val (.int (Int32.ofNat i))] [(.ref a0), (.long ((31 : Int64) * q0))])) _
      refine XS.iloadN X0.here hx rfl (hb hby d3_13) rfl ?_
      show Steps p.tables e below (s₁.setTop (mkF m 14 #[.val (.long q0), .second, .val (.ref a0), .val (.int (Int32.ofNat o)), .val (.int (Int32.ofNat n)), .val (.int (Int32.ofNat i))] [(.int (Int32.ofNat o)), (.ref a0), (.long ((31 : Int64) * q0))])) _
      refine XS.iload X0.here hx rfl (hb hby d3_14) rfl ?_
      show Steps p.tables e below (s₁.setTop (mkF m 16 #[.val (.long q0), .second, .val (.ref a0), .val (.int (Int32.ofNat o)), .val (.int (Int32.ofNat n)), .val (.int (Int32.ofNat i))] [(.int (Int32.ofNat i)), (.int (Int32.ofNat o)), (.ref a0), (.long ((31 : Int64) * q0))])) _
      refine XS.iadd X0.here hx rfl (hb hby d3_16) rfl ?_
      show Steps p.tables e below (s₁.setTop (mkF m 17 #[.val (.long q0), .second, .val (.ref a0), .val (.int (Int32.ofNat o)), .val (.int (Int32.ofNat n)), .val (.int (Int32.ofNat i))] [(.int ((Int32.ofNat o) + (Int32.ofNat i))), (.ref a0), (.long ((31 : Int64) * q0))])) _
      exact kt
    have hin := own_in (own_add (o := o) (i := i) (by omega) (by omega)) (by have := (own_ltn (by omega) (by omega)).mp c29; omega)
    have hlt : o + i < 16 := by have := (own_ltn (by omega) (by omega)).mp c29; omega
    have Vo_a0_32 := V_a
    obtain ⟨cl_a0_32, Ar_a0_32, q_a0_32, S_a0_32, M_a0_32, H_a0_32, G_a0_32⟩ := Vo_a0_32
    have hin32 : ¬ (((Int32.ofNat o) + (Int32.ofNat i)) < 0 ∨ cl_a0_32.slots.size ≤ (((Int32.ofNat o) + (Int32.ofNat i))).toNatClampNeg) := inb_of S_a0_32 ⟨hin.1, hin.2.1⟩
    have hat32 : cl_a0_32.slots[(((Int32.ofNat o) + (Int32.ofNat i))).toNatClampNeg]? = some (.int (D (o + i))) := H_a0_32.at (inb_of S_a0_32 ⟨hin.1, hin.2.1⟩) (by rw [hin.2.2]; exact hD _ hlt)
    have pre33 : ∀ t, Steps p.tables e below (s₁.setTop (mkF m 18 #[.val (.long q0), .second, .val (.ref a0), .val (.int (Int32.ofNat o)), .val (.int (Int32.ofNat n)), .val (.int (Int32.ofNat i))] [(.int (D (o + i))), (.long ((31 : Int64) * q0))])) t → Steps p.tables e below (s₁.setTop (entryFrame m #[(.long q0), (.ref a0), (.int (Int32.ofNat o)), (.int (Int32.ofNat n)), (.int (Int32.ofNat i))] 6)) t := fun t kt => pre31 _ (X0.baloadBytes hx (j := ((Int32.ofNat o) + (Int32.ofNat i))) (v := (.int (D (o + i)))) (by rw [e0]; exact Ar_a0_32.1) (State.isArrayOf_alike hZ.alike Ar_a0_32.2.1) Ar_a0_32.2.2 hin32 hat32 (g := (mkF m 17 #[.val (.long q0), .second, .val (.ref a0), .val (.int (Int32.ofNat o)), .val (.int (Int32.ofNat n)), .val (.int (Int32.ofNat i))] [(.int ((Int32.ofNat o) + (Int32.ofNat i))), (.ref a0), (.long ((31 : Int64) * q0))])) rfl rfl (hb hby d3_17) t kt)
    have pre34 : ∀ t, Steps p.tables e below (s₁.setTop (mkF m 20 #[.val (.long q0), .second, .val (.ref a0), .val (.int (Int32.ofNat o)), .val (.int (Int32.ofNat n)), .val (.int (Int32.ofNat i))] [(.long (((31 : Int64) * q0) + ((D (o + i)).toInt64)))])) t → Steps p.tables e below (s₁.setTop (entryFrame m #[(.long q0), (.ref a0), (.int (Int32.ofNat o)), (.int (Int32.ofNat n)), (.int (Int32.ofNat i))] 6)) t := fun t kt => by
      refine pre33 _ ?_
      show Steps p.tables e below (s₁.setTop (mkF m 18 #[.val (.long q0), .second, .val (.ref a0), .val (.int (Int32.ofNat o)), .val (.int (Int32.ofNat n)), .val (.int (Int32.ofNat i))] [(.int (D (o + i))), (.long ((31 : Int64) * q0))])) _
      refine XS.i2l X0.here hx rfl (hb hby d3_18) rfl ?_
      show Steps p.tables e below (s₁.setTop (mkF m 19 #[.val (.long q0), .second, .val (.ref a0), .val (.int (Int32.ofNat o)), .val (.int (Int32.ofNat n)), .val (.int (Int32.ofNat i))] [(.long ((D (o + i)).toInt64)), (.long ((31 : Int64) * q0))])) _
      refine XS.ladd X0.here hx rfl (hb hby d3_19) rfl ?_
      show Steps p.tables e below (s₁.setTop (mkF m 20 #[.val (.long q0), .second, .val (.ref a0), .val (.int (Int32.ofNat o)), .val (.int (Int32.ofNat n)), .val (.int (Int32.ofNat i))] [(.long (((31 : Int64) * q0) + ((D (o + i)).toInt64)))])) _
      exact kt
    obtain ⟨fs, hr, hrun, hended, hW, hsame⟩ := X0.leave (v := some (.long (((31 : Int64) * q0) + ((D (o + i)).toInt64)))) (fun h => by rw [Bd.returns] at h; cases h)
    refine ⟨_, _, pre34 _ ?_, hrun, hended, _, _, rfl, ?_, ⟨_, rfl⟩, hW, hsame.mono (by decide) (by decide)⟩
    · show Steps p.tables e below (s₁.setTop (mkF m 20 #[.val (.long q0), .second, .val (.ref a0), .val (.int (Int32.ofNat o)), .val (.int (Int32.ofNat n)), .val (.int (Int32.ofNat i))] [(.long (((31 : Int64) * q0) + ((D (o + i)).toInt64)))])) _
      exact Jvm.Stand.lreturnOut X0 hx Bd.returns (hb hby d3_20) hr
    · have hv : f3 q0 o n i D = (((31 : Int64) * q0) + ((D (o + i)).toInt64)) := by unfold f3; rw [if_pos c29]
      show Q3 q0 o n i D h0 n0 _ s₁.heap _
      rw [e0]
      exact ⟨by rw [hv], N0, rfl⟩
  · have pre35 : ∀ t, Steps p.tables e below (s₁.setTop (mkF m 21 #[.val (.long q0), .second, .val (.ref a0), .val (.int (Int32.ofNat o)), .val (.int (Int32.ofNat n)), .val (.int (Int32.ofNat i))] [])) t → Steps p.tables e below (s₁.setTop (entryFrame m #[(.long q0), (.ref a0), (.int (Int32.ofNat o)), (.int (Int32.ofNat n)), (.int (Int32.ofNat i))] 6)) t := fun t kt => by
      refine pre28 _ ?_
      show Steps p.tables e below (s₁.setTop (mkF m 4 #[.val (.long q0), .second, .val (.ref a0), .val (.int (Int32.ofNat o)), .val (.int (Int32.ofNat n)), .val (.int (Int32.ofNat i))] [(.int (Int32.ofNat n)), (.int (Int32.ofNat i))])) _
      refine XS.icmpYes X0.here hx rfl (pc0 := 4) (pc' := 21) rfl (hb hby d3_4) rfl (flt c29).2.1 (by decide) (by decide) ?_
      show Steps p.tables e below (s₁.setTop (mkF m 21 #[.val (.long q0), .second, .val (.ref a0), .val (.int (Int32.ofNat o)), .val (.int (Int32.ofNat n)), .val (.int (Int32.ofNat i))] [])) _
      exact kt
    have pre36 : ∀ t, Steps p.tables e below (s₁.setTop (mkF m 22 #[.val (.long q0), .second, .val (.ref a0), .val (.int (Int32.ofNat o)), .val (.int (Int32.ofNat n)), .val (.int (Int32.ofNat i))] [(.long q0)])) t → Steps p.tables e below (s₁.setTop (entryFrame m #[(.long q0), (.ref a0), (.int (Int32.ofNat o)), (.int (Int32.ofNat n)), (.int (Int32.ofNat i))] 6)) t := fun t kt => by
      refine pre35 _ ?_
      show Steps p.tables e below (s₁.setTop (mkF m 21 #[.val (.long q0), .second, .val (.ref a0), .val (.int (Int32.ofNat o)), .val (.int (Int32.ofNat n)), .val (.int (Int32.ofNat i))] [])) _
      refine XS.lloadN X0.here hx rfl (hb hby d3_21) rfl ?_
      show Steps p.tables e below (s₁.setTop (mkF m 22 #[.val (.long q0), .second, .val (.ref a0), .val (.int (Int32.ofNat o)), .val (.int (Int32.ofNat n)), .val (.int (Int32.ofNat i))] [(.long q0)])) _
      exact kt
    obtain ⟨fs, hr, hrun, hended, hW, hsame⟩ := X0.leave (v := some (.long q0)) (fun h => by rw [Bd.returns] at h; cases h)
    refine ⟨_, _, pre36 _ ?_, hrun, hended, _, _, rfl, ?_, ⟨_, rfl⟩, hW, hsame.mono (by decide) (by decide)⟩
    · show Steps p.tables e below (s₁.setTop (mkF m 22 #[.val (.long q0), .second, .val (.ref a0), .val (.int (Int32.ofNat o)), .val (.int (Int32.ofNat n)), .val (.int (Int32.ofNat i))] [(.long q0)])) _
      exact Jvm.Stand.lreturnOut X0 hx Bd.returns (hb hby d3_22) hr
    · have hv : f3 q0 o n i D = q0 := by unfold f3; rw [if_neg c29]
      show Q3 q0 o n i D h0 n0 _ s₁.heap _
      rw [e0]
      exact ⟨by rw [hv], N0, rfl⟩
theorem d1_0 : decode prog_33_method_14_code 0 = .ok (.lconst 0, 1) := by decide +kernel
theorem d1_1 : decode prog_33_method_14_code 1 = .ok (.lstore_n 3, 1) := by decide +kernel
theorem d1_2 : decode prog_33_method_14_code 2 = .ok (.iload_n 2, 1) := by decide +kernel
theorem d1_3 : decode prog_33_method_14_code 3 = .ok (.iload_n 1, 1) := by decide +kernel
theorem d1_4 : decode prog_33_method_14_code 4 = .ok (.isub, 1) := by decide +kernel
theorem d1_5 : decode prog_33_method_14_code 5 = .ok (.bipush 7, 2) := by decide +kernel
theorem d1_7 : decode prog_33_method_14_code 7 = .ok (.if_icmp .gt 48, 3) := by decide +kernel
theorem d1_10 : decode prog_33_method_14_code 10 = .ok (.iload_n 2, 1) := by decide +kernel
theorem d1_11 : decode prog_33_method_14_code 11 = .ok (.iconst 1, 1) := by decide +kernel
theorem d1_12 : decode prog_33_method_14_code 12 = .ok (.isub, 1) := by decide +kernel
theorem d1_13 : decode prog_33_method_14_code 13 = .ok (.istore 5, 2) := by decide +kernel
theorem d1_15 : decode prog_33_method_14_code 15 = .ok (.iload 5, 2) := by decide +kernel
theorem d1_17 : decode prog_33_method_14_code 17 = .ok (.iload_n 1, 1) := by decide +kernel
theorem d1_18 : decode prog_33_method_14_code 18 = .ok (.if_icmp .lt 24, 3) := by decide +kernel
theorem d1_21 : decode prog_33_method_14_code 21 = .ok (.lload_n 3, 1) := by decide +kernel
theorem d1_22 : decode prog_33_method_14_code 22 = .ok (.bipush 8, 2) := by decide +kernel
theorem d1_24 : decode prog_33_method_14_code 24 = .ok (.lshl, 1) := by decide +kernel
theorem d1_25 : decode prog_33_method_14_code 25 = .ok (.aload_n 0, 1) := by decide +kernel
theorem d1_26 : decode prog_33_method_14_code 26 = .ok (.iload 5, 2) := by decide +kernel
theorem d1_28 : decode prog_33_method_14_code 28 = .ok (.baload, 1) := by decide +kernel
theorem d1_29 : decode prog_33_method_14_code 29 = .ok (.sipush 255, 3) := by decide +kernel
theorem d1_32 : decode prog_33_method_14_code 32 = .ok (.iand, 1) := by decide +kernel
theorem d1_33 : decode prog_33_method_14_code 33 = .ok (.i2l, 1) := by decide +kernel
theorem d1_34 : decode prog_33_method_14_code 34 = .ok (.lor, 1) := by decide +kernel
theorem d1_35 : decode prog_33_method_14_code 35 = .ok (.lstore_n 3, 1) := by decide +kernel
theorem d1_36 : decode prog_33_method_14_code 36 = .ok (.iinc 5 (-1), 3) := by decide +kernel
theorem d1_39 : decode prog_33_method_14_code 39 = .ok (.goto (-24), 3) := by decide +kernel
theorem d1_42 : decode prog_33_method_14_code 42 = .ok (.lload_n 3, 1) := by decide +kernel
theorem d1_43 : decode prog_33_method_14_code 43 = .ok (.iload_n 2, 1) := by decide +kernel
theorem d1_44 : decode prog_33_method_14_code 44 = .ok (.iload_n 1, 1) := by decide +kernel
theorem d1_45 : decode prog_33_method_14_code 45 = .ok (.isub, 1) := by decide +kernel
theorem d1_46 : decode prog_33_method_14_code 46 = .ok (.i2l, 1) := by decide +kernel
theorem d1_47 : decode prog_33_method_14_code 47 = .ok (.bipush 56, 2) := by decide +kernel
theorem d1_49 : decode prog_33_method_14_code 49 = .ok (.lshl, 1) := by decide +kernel
theorem d1_50 : decode prog_33_method_14_code 50 = .ok (.lor, 1) := by decide +kernel
theorem d1_51 : decode prog_33_method_14_code 51 = .ok (.lstore_n 3, 1) := by decide +kernel
theorem d1_52 : decode prog_33_method_14_code 52 = .ok (.goto 40, 3) := by decide +kernel
theorem d1_55 : decode prog_33_method_14_code 55 = .ok (.iload_n 1, 1) := by decide +kernel
theorem d1_56 : decode prog_33_method_14_code 56 = .ok (.istore 5, 2) := by decide +kernel
theorem d1_58 : decode prog_33_method_14_code 58 = .ok (.iload 5, 2) := by decide +kernel
theorem d1_60 : decode prog_33_method_14_code 60 = .ok (.iload_n 2, 1) := by decide +kernel
theorem d1_61 : decode prog_33_method_14_code 61 = .ok (.if_icmp .ge 21, 3) := by decide +kernel
theorem d1_64 : decode prog_33_method_14_code 64 = .ok (.ldc2_w 108, 3) := by decide +kernel
theorem d1_67 : decode prog_33_method_14_code 67 = .ok (.lload_n 3, 1) := by decide +kernel
theorem d1_68 : decode prog_33_method_14_code 68 = .ok (.lmul, 1) := by decide +kernel
theorem d1_69 : decode prog_33_method_14_code 69 = .ok (.aload_n 0, 1) := by decide +kernel
theorem d1_70 : decode prog_33_method_14_code 70 = .ok (.iload 5, 2) := by decide +kernel
theorem d1_72 : decode prog_33_method_14_code 72 = .ok (.baload, 1) := by decide +kernel
theorem d1_73 : decode prog_33_method_14_code 73 = .ok (.i2l, 1) := by decide +kernel
theorem d1_74 : decode prog_33_method_14_code 74 = .ok (.ladd, 1) := by decide +kernel
theorem d1_75 : decode prog_33_method_14_code 75 = .ok (.lstore_n 3, 1) := by decide +kernel
theorem d1_76 : decode prog_33_method_14_code 76 = .ok (.iinc 5 1, 3) := by decide +kernel
theorem d1_79 : decode prog_33_method_14_code 79 = .ok (.goto (-21), 3) := by decide +kernel
theorem d1_82 : decode prog_33_method_14_code 82 = .ok (.ldc2_w 110, 3) := by decide +kernel
theorem d1_85 : decode prog_33_method_14_code 85 = .ok (.lload_n 3, 1) := by decide +kernel
theorem d1_86 : decode prog_33_method_14_code 86 = .ok (.ldc2_w 112, 3) := by decide +kernel
theorem d1_89 : decode prog_33_method_14_code 89 = .ok (.land, 1) := by decide +kernel
theorem d1_90 : decode prog_33_method_14_code 90 = .ok (.lor, 1) := by decide +kernel
theorem d1_91 : decode prog_33_method_14_code 91 = .ok (.lstore_n 3, 1) := by decide +kernel
theorem d1_92 : decode prog_33_method_14_code 92 = .ok (.lload_n 3, 1) := by decide +kernel
theorem d1_93 : decode prog_33_method_14_code 93 = .ok (.lreturn, 1) := by decide +kernel
theorem pn_1 : plainName "com/example/attestry/attestry/ParticipantNames" = true := by first | (simp [plainName, overriddenIn]; done) | decide +kernel
theorem ef_1 (m : MethodId) (x0 : Addr) (x1 : Int32) (x2 : Int32) : entryFrame m #[(.ref x0), (.int x1), (.int x2)] 6 = mkF m 0 #[.val (.ref x0), .val (.int x1), .val (.int x2), .unset, .unset, .unset] [] := by first | (simp [entryFrame, mkF, argsToLocals, Value.category]; done) | rfl
def Q1_s (o n : Nat) (D : Nat → Int32) (h0 : Heap) (n0 : Nat) (v : Option Value) (h : Heap) (L : List Loc) : Prop := v = some (.long ((own_S D (o + n) n) ||| ((Int32.ofNat n).toInt64 <<< ((56 : Int32) &&& 0x3f).toInt64))) ∧ Fr n0 L ∧ Keep h0 h [] 
set_option maxRecDepth 65536 in
set_option maxHeartbeats 40000000 in
theorem rm1_s (l : Launch) (Z : State) (aZ : Array Value) (hw : ∀ d ∈ tables_1, d.before aZ Z = true) (ws : List Jvm.Cond) (a0 : Addr) (o n : Nat) (kd : ClassId) (vs : List Value) (D : Nat → Int32) (h0 : Heap) (n0 : Nat) (Z0 : n0 ≤ h0.size) (V_a : Arv Z h0 a0 kd .byte (16 : Int32) vs (.int (0 : Int32))) (hD : ∀ k, k < 16 → vs.getD k (.int (0 : Int32)) = .int (D k)) (hon : o + n ≤ 16) (hs : n ≤ 7) :
    MetFree l (⟨"com/example/attestry/attestry/ParticipantNames", "key", "([BII)J"⟩ : MethodName) (head1 (Jvm.Cond.code (⟨"com/example/attestry/attestry/ParticipantNames", "key", "([BII)J"⟩ : MethodName) prog_33_method_14_code 6 (some .long) :: ws) ({ frames := 0, cells := 0, slots := 0, locals := 0 } : Room)) (fun a U => a = #[(.ref a0), (.int (Int32.ofNat o)), (.int (Int32.ofNat (o + n)))] ∧ Z.Warmed39 U.vm ∧ U.heap = h0) (fun _ _ _ _ _ => True) (fun _ U oc U' => ∃ v L, oc = .returned v ∧ Q1_s o n D h0 n0 v U'.heap L ∧ FrameEnd U oc U' L ({ frames := 0, cells := 0, slots := 0, locals := 0 } : Room).cells ({ frames := 0, cells := 0, slots := 0, locals := 0 } : Room).slots) := by
  refine MetFree.of_bodySF (plainFor_of_name pn_1) hisR ?_
  intro p e s m args below meth c s₁ Bd hml0 hP hK
  obtain ⟨rfl, hZ, hh⟩ := hP
  have hx := Bd.exec
  have hby := Bd.bytes
  have hml : c.maxLocals = 6 := hml0
  have hown : s.vm.findClass "com/example/attestry/attestry/ParticipantNames" = some m.cls := findClass_of_methodNamed Bd.named
  have hnm := (name_of_methodNamed Bd.named Bd.method).1
  have X0 : Stand p l e ({ frames := 0, cells := 0, slots := 0, locals := 0 } : Room) s m #[(.ref a0), (.int (Int32.ofNat o)), (.int (Int32.ofNat (o + n)))] below meth c s₁ [] 0 0 := Stand.of_body Bd
  have e0 : s₁.heap = h0 := by rw [← hh, Bd.state]; rfl
  have N0 := Fr.nil n0
  have pre0 : ∀ t, Steps p.tables e below (s₁.setTop (mkF m 0 #[.val (.ref a0), .val (.int (Int32.ofNat o)), .val (.int (Int32.ofNat (o + n))), .unset, .unset, .unset] [])) t → Steps p.tables e below (s₁.setTop (entryFrame m #[(.ref a0), (.int (Int32.ofNat o)), (.int (Int32.ofNat (o + n)))] 6)) t := fun t kt => castTop (ef_1 m a0 (Int32.ofNat o) (Int32.ofNat (o + n))) kt
  have pre37 : ∀ t, Steps p.tables e below (s₁.setTop (mkF m 5 #[.val (.ref a0), .val (.int (Int32.ofNat o)), .val (.int (Int32.ofNat (o + n))), .val (.long (0 : Int64)), .second, .unset] [(.int ((Int32.ofNat (o + n)) - (Int32.ofNat o)))])) t → Steps p.tables e below (s₁.setTop (entryFrame m #[(.ref a0), (.int (Int32.ofNat o)), (.int (Int32.ofNat (o + n)))] 6)) t := fun t kt => by
    refine pre0 _ ?_
    show Steps p.tables e below (s₁.setTop (mkF m 0 #[.val (.ref a0), .val (.int (Int32.ofNat o)), .val (.int (Int32.ofNat (o + n))), .unset, .unset, .unset] [])) _
    refine XS.lconst X0.here hx rfl (hb hby d1_0) ?_
    show Steps p.tables e below (s₁.setTop (mkF m 1 #[.val (.ref a0), .val (.int (Int32.ofNat o)), .val (.int (Int32.ofNat (o + n))), .unset, .unset, .unset] [(.long (0 : Int64))])) _
    refine XS.lstoreN X0.here hx rfl (hb hby d1_1) rfl (l' := #[.val (.ref a0), .val (.int (Int32.ofNat o)), .val (.int (Int32.ofNat (o + n))), .val (.long (0 : Int64)), .second, .unset]) rfl ?_
    show Steps p.tables e below (s₁.setTop (mkF m 2 #[.val (.ref a0), .val (.int (Int32.ofNat o)), .val (.int (Int32.ofNat (o + n))), .val (.long (0 : Int64)), .second, .unset] [])) _
    refine XS.iloadN X0.here hx rfl (hb hby d1_2) rfl ?_
    show Steps p.tables e below (s₁.setTop (mkF m 3 #[.val (.ref a0), .val (.int (Int32.ofNat o)), .val (.int (Int32.ofNat (o + n))), .val (.long (0 : Int64)), .second, .unset] [(.int (Int32.ofNat (o + n)))])) _
    refine XS.iloadN X0.here hx rfl (hb hby d1_3) rfl ?_
    show Steps p.tables e below (s₁.setTop (mkF m 4 #[.val (.ref a0), .val (.int (Int32.ofNat o)), .val (.int (Int32.ofNat (o + n))), .val (.long (0 : Int64)), .second, .unset] [(.int (Int32.ofNat o)), (.int (Int32.ofNat (o + n)))])) _
    refine XS.isub X0.here hx rfl (hb hby d1_4) rfl ?_
    show Steps p.tables e below (s₁.setTop (mkF m 5 #[.val (.ref a0), .val (.int (Int32.ofNat o)), .val (.int (Int32.ofNat (o + n))), .val (.long (0 : Int64)), .second, .unset] [(.int ((Int32.ofNat (o + n)) - (Int32.ofNat o)))])) _
    exact kt
  have pre38 : ∀ t, Steps p.tables e below (s₁.setTop (mkF m 5 #[.val (.ref a0), .val (.int (Int32.ofNat o)), .val (.int (Int32.ofNat (o + n))), .val (.long (0 : Int64)), .second, .unset] [(.int (Int32.ofNat n))])) t → Steps p.tables e below (s₁.setTop (entryFrame m #[(.ref a0), (.int (Int32.ofNat o)), (.int (Int32.ofNat (o + n)))] 6)) t := by
    have q := pre37
    rw [own_sub (o := o) (n := n) (by omega)] at q
    exact q
  have pre39 : ∀ t, Steps p.tables e below (s₁.setTop (mkF m 7 #[.val (.ref a0), .val (.int (Int32.ofNat o)), .val (.int (Int32.ofNat (o + n))), .val (.long (0 : Int64)), .second, .unset] [(.int (7 : Int32)), (.int (Int32.ofNat n))])) t → Steps p.tables e below (s₁.setTop (entryFrame m #[(.ref a0), (.int (Int32.ofNat o)), (.int (Int32.ofNat (o + n)))] 6)) t := fun t kt => by
    refine pre38 _ ?_
    show Steps p.tables e below (s₁.setTop (mkF m 5 #[.val (.ref a0), .val (.int (Int32.ofNat o)), .val (.int (Int32.ofNat (o + n))), .val (.long (0 : Int64)), .second, .unset] [(.int (Int32.ofNat n))])) _
    refine XS.bipush X0.here hx rfl (hb hby d1_5) ?_
    show Steps p.tables e below (s₁.setTop (mkF m 7 #[.val (.ref a0), .val (.int (Int32.ofNat o)), .val (.int (Int32.ofNat (o + n))), .val (.long (0 : Int64)), .second, .unset] [(.int (7 : Int32)), (.int (Int32.ofNat n))])) _
    exact kt
  have h7 : (7 : Int32) < (Int32.ofNat n) ↔ 7 < n := own_ltn (i := 7) (n := n) (by omega) (by omega)
  have pre40 : ∀ t, Steps p.tables e below (s₁.setTop (mkF m 10 #[.val (.ref a0), .val (.int (Int32.ofNat o)), .val (.int (Int32.ofNat (o + n))), .val (.long (0 : Int64)), .second, .unset] [])) t → Steps p.tables e below (s₁.setTop (entryFrame m #[(.ref a0), (.int (Int32.ofNat o)), (.int (Int32.ofNat (o + n)))] 6)) t := fun t kt => by
    refine pre39 _ ?_
    show Steps p.tables e below (s₁.setTop (mkF m 7 #[.val (.ref a0), .val (.int (Int32.ofNat o)), .val (.int (Int32.ofNat (o + n))), .val (.long (0 : Int64)), .second, .unset] [(.int (7 : Int32)), (.int (Int32.ofNat n))])) _
    refine XS.icmpNo X0.here hx rfl (hb hby d1_7) rfl (flt (fun q => absurd (h7.mp q) (by omega))).2.2.1 ?_
    show Steps p.tables e below (s₁.setTop (mkF m 10 #[.val (.ref a0), .val (.int (Int32.ofNat o)), .val (.int (Int32.ofNat (o + n))), .val (.long (0 : Int64)), .second, .unset] [])) _
    exact kt
  have pre41 : ∀ t, Steps p.tables e below (s₁.setTop (mkF m 15 #[.val (.ref a0), .val (.int (Int32.ofNat o)), .val (.int (Int32.ofNat (o + n))), .val (.long (0 : Int64)), .second, .val (.int ((Int32.ofNat (o + n)) - (1 : Int32)))] [])) t → Steps p.tables e below (s₁.setTop (entryFrame m #[(.ref a0), (.int (Int32.ofNat o)), (.int (Int32.ofNat (o + n)))] 6)) t := fun t kt => by
    refine pre40 _ ?_
    show Steps p.tables e below (s₁.setTop (mkF m 10 #[.val (.ref a0), .val (.int (Int32.ofNat o)), .val (.int (Int32.ofNat (o + n))), .val (.long (0 : Int64)), .second, .unset] [])) _
    refine XS.iloadN X0.here hx rfl (hb hby d1_10) rfl ?_
    show Steps p.tables e below (s₁.setTop (mkF m 11 #[.val (.ref a0), .val (.int (Int32.ofNat o)), .val (.int (Int32.ofNat (o + n))), .val (.long (0 : Int64)), .second, .unset] [(.int (Int32.ofNat (o + n)))])) _
    refine XS.iconst X0.here hx rfl (hb hby d1_11) ?_
    show Steps p.tables e below (s₁.setTop (mkF m 12 #[.val (.ref a0), .val (.int (Int32.ofNat o)), .val (.int (Int32.ofNat (o + n))), .val (.long (0 : Int64)), .second, .unset] [(.int (1 : Int32)), (.int (Int32.ofNat (o + n)))])) _
    refine XS.isub X0.here hx rfl (hb hby d1_12) rfl ?_
    show Steps p.tables e below (s₁.setTop (mkF m 13 #[.val (.ref a0), .val (.int (Int32.ofNat o)), .val (.int (Int32.ofNat (o + n))), .val (.long (0 : Int64)), .second, .unset] [(.int ((Int32.ofNat (o + n)) - (1 : Int32)))])) _
    refine XS.istore X0.here hx rfl (hb hby d1_13) rfl (l' := #[.val (.ref a0), .val (.int (Int32.ofNat o)), .val (.int (Int32.ofNat (o + n))), .val (.long (0 : Int64)), .second, .val (.int ((Int32.ofNat (o + n)) - (1 : Int32)))]) rfl ?_
    show Steps p.tables e below (s₁.setTop (mkF m 15 #[.val (.ref a0), .val (.int (Int32.ofNat o)), .val (.int (Int32.ofNat (o + n))), .val (.long (0 : Int64)), .second, .val (.int ((Int32.ofNat (o + n)) - (1 : Int32)))] [])) _
    exact kt
  have K0 := Keep.refl h0 []
  have loop42 : ∀ k : Nat, k ≤ n → ∃ (T : State) (L : List Loc), Stand p l e ({ frames := 0, cells := 0, slots := 0, locals := 0 } : Room) s m #[(.ref a0), (.int (Int32.ofNat o)), (.int (Int32.ofNat (o + n)))] below meth c T L 0 0 ∧ Fr n0 L ∧ Keep h0 T.heap [] ∧ Arv Z T.heap a0 kd .byte (16 : Int32) vs (.int (0 : Int32)) ∧ ∀ t, Steps p.tables e below (T.setTop (mkF m 15 #[.val (.ref a0), .val (.int (Int32.ofNat o)), .val (.int (Int32.ofNat (o + n))), .val (.long (own_S D (o + n) k)), .second, .val (.int ((Int32.ofNat (o + n - k)) - (1 : Int32)))] [])) t → Steps p.tables e below (s₁.setTop (entryFrame m #[(.ref a0), (.int (Int32.ofNat o)), (.int (Int32.ofNat (o + n)))] 6)) t := by
    intro k
    induction k with
    | zero => intro _; exact ⟨s₁, _, X0, N0, by rw [e0]; exact K0, by rw [e0]; exact V_a, pre41⟩
    | succ k ih =>
      intro hk
      obtain ⟨T42l, L42l, X42l, N42l, K42l, I42_0l, pre42l⟩ := ih (by omega)
      have Zs42l : n0 ≤ T42l.heap.size := Nat.le_trans Z0 K42l.1
      have hd := own_dn' (a := o + n) (k := k) (by omega) (by omega)
      have ho := own_nat (n := o) (by omega)
      have pre43 : ∀ t, Steps p.tables e below (T42l.setTop (mkF m 18 #[.val (.ref a0), .val (.int (Int32.ofNat o)), .val (.int (Int32.ofNat (o + n))), .val (.long (own_S D (o + n) k)), .second, .val (.int ((Int32.ofNat (o + n - k)) - (1 : Int32)))] [(.int (Int32.ofNat o)), (.int ((Int32.ofNat (o + n - k)) - (1 : Int32)))])) t → Steps p.tables e below (s₁.setTop (entryFrame m #[(.ref a0), (.int (Int32.ofNat o)), (.int (Int32.ofNat (o + n)))] 6)) t := fun t kt => by
        refine pre42l _ ?_
        show Steps p.tables e below (T42l.setTop (mkF m 15 #[.val (.ref a0), .val (.int (Int32.ofNat o)), .val (.int (Int32.ofNat (o + n))), .val (.long (own_S D (o + n) k)), .second, .val (.int ((Int32.ofNat (o + n - k)) - (1 : Int32)))] [])) _
        refine XS.iload X42l.here hx rfl (hb hby d1_15) rfl ?_
        show Steps p.tables e below (T42l.setTop (mkF m 17 #[.val (.ref a0), .val (.int (Int32.ofNat o)), .val (.int (Int32.ofNat (o + n))), .val (.long (own_S D (o + n) k)), .second, .val (.int ((Int32.ofNat (o + n - k)) - (1 : Int32)))] [(.int ((Int32.ofNat (o + n - k)) - (1 : Int32)))])) _
        refine XS.iloadN X42l.here hx rfl (hb hby d1_17) rfl ?_
        show Steps p.tables e below (T42l.setTop (mkF m 18 #[.val (.ref a0), .val (.int (Int32.ofNat o)), .val (.int (Int32.ofNat (o + n))), .val (.long (own_S D (o + n) k)), .second, .val (.int ((Int32.ofNat (o + n - k)) - (1 : Int32)))] [(.int (Int32.ofNat o)), (.int ((Int32.ofNat (o + n - k)) - (1 : Int32)))])) _
        exact kt
      have pre44 : ∀ t, Steps p.tables e below (T42l.setTop (mkF m 21 #[.val (.ref a0), .val (.int (Int32.ofNat o)), .val (.int (Int32.ofNat (o + n))), .val (.long (own_S D (o + n) k)), .second, .val (.int ((Int32.ofNat (o + n - k)) - (1 : Int32)))] [])) t → Steps p.tables e below (s₁.setTop (entryFrame m #[(.ref a0), (.int (Int32.ofNat o)), (.int (Int32.ofNat (o + n)))] 6)) t := fun t kt => by
        refine pre43 _ ?_
        show Steps p.tables e below (T42l.setTop (mkF m 18 #[.val (.ref a0), .val (.int (Int32.ofNat o)), .val (.int (Int32.ofNat (o + n))), .val (.long (own_S D (o + n) k)), .second, .val (.int ((Int32.ofNat (o + n - k)) - (1 : Int32)))] [(.int (Int32.ofNat o)), (.int ((Int32.ofNat (o + n - k)) - (1 : Int32)))])) _
        refine XS.icmpNo X42l.here hx rfl (hb hby d1_18) rfl (flt (by rw [Int32.lt_iff_toInt_lt, hd, ho]; omega)).1 ?_
        show Steps p.tables e below (T42l.setTop (mkF m 21 #[.val (.ref a0), .val (.int (Int32.ofNat o)), .val (.int (Int32.ofNat (o + n))), .val (.long (own_S D (o + n) k)), .second, .val (.int ((Int32.ofNat (o + n - k)) - (1 : Int32)))] [])) _
        exact kt
      have pre45 : ∀ t, Steps p.tables e below (T42l.setTop (mkF m 28 #[.val (.ref a0), .val (.int (Int32.ofNat o)), .val (.int (Int32.ofNat (o + n))), .val (.long (own_S D (o + n) k)), .second, .val (.int ((Int32.ofNat (o + n - k)) - (1 : Int32)))] [(.int ((Int32.ofNat (o + n - k)) - (1 : Int32))), (.ref a0), (.long ((own_S D (o + n) k) <<< ((8 : Int32) &&& 0x3f).toInt64))])) t → Steps p.tables e below (s₁.setTop (entryFrame m #[(.ref a0), (.int (Int32.ofNat o)), (.int (Int32.ofNat (o + n)))] 6)) t := fun t kt => by
        refine pre44 _ ?_
        show Steps p.tables e below (T42l.setTop (mkF m 21 #[.val (.ref a0), .val (.int (Int32.ofNat o)), .val (.int (Int32.ofNat (o + n))), .val (.long (own_S D (o + n) k)), .second, .val (.int ((Int32.ofNat (o + n - k)) - (1 : Int32)))] [])) _
        refine XS.lloadN X42l.here hx rfl (hb hby d1_21) rfl ?_
        show Steps p.tables e below (T42l.setTop (mkF m 22 #[.val (.ref a0), .val (.int (Int32.ofNat o)), .val (.int (Int32.ofNat (o + n))), .val (.long (own_S D (o + n) k)), .second, .val (.int ((Int32.ofNat (o + n - k)) - (1 : Int32)))] [(.long (own_S D (o + n) k))])) _
        refine XS.bipush X42l.here hx rfl (hb hby d1_22) ?_
        show Steps p.tables e below (T42l.setTop (mkF m 24 #[.val (.ref a0), .val (.int (Int32.ofNat o)), .val (.int (Int32.ofNat (o + n))), .val (.long (own_S D (o + n) k)), .second, .val (.int ((Int32.ofNat (o + n - k)) - (1 : Int32)))] [(.int (8 : Int32)), (.long (own_S D (o + n) k))])) _
        refine XS.lshl X42l.here hx rfl (hb hby d1_24) rfl ?_
        show Steps p.tables e below (T42l.setTop (mkF m 25 #[.val (.ref a0), .val (.int (Int32.ofNat o)), .val (.int (Int32.ofNat (o + n))), .val (.long (own_S D (o + n) k)), .second, .val (.int ((Int32.ofNat (o + n - k)) - (1 : Int32)))] [(.long ((own_S D (o + n) k) <<< ((8 : Int32) &&& 0x3f).toInt64))])) _
        refine XS.aloadN X42l.here hx rfl (hb hby d1_25) rfl rfl ?_
        show Steps p.tables e below (T42l.setTop (mkF m 26 #[.val (.ref a0), .val (.int (Int32.ofNat o)), .val (.int (Int32.ofNat (o + n))), .val (.long (own_S D (o + n) k)), .second, .val (.int ((Int32.ofNat (o + n - k)) - (1 : Int32)))] [(.ref a0), (.long ((own_S D (o + n) k) <<< ((8 : Int32) &&& 0x3f).toInt64))])) _
        refine XS.iload X42l.here hx rfl (hb hby d1_26) rfl ?_
        show Steps p.tables e below (T42l.setTop (mkF m 28 #[.val (.ref a0), .val (.int (Int32.ofNat o)), .val (.int (Int32.ofNat (o + n))), .val (.long (own_S D (o + n) k)), .second, .val (.int ((Int32.ofNat (o + n - k)) - (1 : Int32)))] [(.int ((Int32.ofNat (o + n - k)) - (1 : Int32))), (.ref a0), (.long ((own_S D (o + n) k) <<< ((8 : Int32) &&& 0x3f).toInt64))])) _
        exact kt
      have hin := own_in (own_dn (a := o + n) (k := k) (by omega) (by omega)) (by omega)
      have Vo_a0_46 := I42_0l
      obtain ⟨cl_a0_46, Ar_a0_46, q_a0_46, S_a0_46, M_a0_46, H_a0_46, G_a0_46⟩ := Vo_a0_46
      have hin46 : ¬ (((Int32.ofNat (o + n - k)) - (1 : Int32)) < 0 ∨ cl_a0_46.slots.size ≤ (((Int32.ofNat (o + n - k)) - (1 : Int32))).toNatClampNeg) := inb_of S_a0_46 ⟨hin.1, hin.2.1⟩
      have hat46 : cl_a0_46.slots[(((Int32.ofNat (o + n - k)) - (1 : Int32))).toNatClampNeg]? = some (.int (D (o + n - 1 - k))) := H_a0_46.at (inb_of S_a0_46 ⟨hin.1, hin.2.1⟩) (by rw [hin.2.2]; exact hD _ (by omega))
      have pre47 : ∀ t, Steps p.tables e below (T42l.setTop (mkF m 29 #[.val (.ref a0), .val (.int (Int32.ofNat o)), .val (.int (Int32.ofNat (o + n))), .val (.long (own_S D (o + n) k)), .second, .val (.int ((Int32.ofNat (o + n - k)) - (1 : Int32)))] [(.int (D (o + n - 1 - k))), (.long ((own_S D (o + n) k) <<< ((8 : Int32) &&& 0x3f).toInt64))])) t → Steps p.tables e below (s₁.setTop (entryFrame m #[(.ref a0), (.int (Int32.ofNat o)), (.int (Int32.ofNat (o + n)))] 6)) t := fun t kt => pre45 _ (X42l.baloadBytes hx (j := ((Int32.ofNat (o + n - k)) - (1 : Int32))) (v := (.int (D (o + n - 1 - k)))) Ar_a0_46.1 (State.isArrayOf_alike hZ.alike Ar_a0_46.2.1) Ar_a0_46.2.2 hin46 hat46 (g := (mkF m 28 #[.val (.ref a0), .val (.int (Int32.ofNat o)), .val (.int (Int32.ofNat (o + n))), .val (.long (own_S D (o + n) k)), .second, .val (.int ((Int32.ofNat (o + n - k)) - (1 : Int32)))] [(.int ((Int32.ofNat (o + n - k)) - (1 : Int32))), (.ref a0), (.long ((own_S D (o + n) k) <<< ((8 : Int32) &&& 0x3f).toInt64))])) rfl rfl (hb hby d1_28) t kt)
      have pre48 : ∀ t, Steps p.tables e below (T42l.setTop (mkF m 39 #[.val (.ref a0), .val (.int (Int32.ofNat o)), .val (.int (Int32.ofNat (o + n))), .val (.long (((own_S D (o + n) k) <<< ((8 : Int32) &&& 0x3f).toInt64) ||| (((D (o + n - 1 - k)) &&& (255 : Int32)).toInt64))), .second, .val (.int (((Int32.ofNat (o + n - k)) - (1 : Int32)) + (-1 : Int32)))] [])) t → Steps p.tables e below (s₁.setTop (entryFrame m #[(.ref a0), (.int (Int32.ofNat o)), (.int (Int32.ofNat (o + n)))] 6)) t := fun t kt => by
        refine pre47 _ ?_
        show Steps p.tables e below (T42l.setTop (mkF m 29 #[.val (.ref a0), .val (.int (Int32.ofNat o)), .val (.int (Int32.ofNat (o + n))), .val (.long (own_S D (o + n) k)), .second, .val (.int ((Int32.ofNat (o + n - k)) - (1 : Int32)))] [(.int (D (o + n - 1 - k))), (.long ((own_S D (o + n) k) <<< ((8 : Int32) &&& 0x3f).toInt64))])) _
        refine XS.sipush X42l.here hx rfl (hb hby d1_29) ?_
        show Steps p.tables e below (T42l.setTop (mkF m 32 #[.val (.ref a0), .val (.int (Int32.ofNat o)), .val (.int (Int32.ofNat (o + n))), .val (.long (own_S D (o + n) k)), .second, .val (.int ((Int32.ofNat (o + n - k)) - (1 : Int32)))] [(.int (255 : Int32)), (.int (D (o + n - 1 - k))), (.long ((own_S D (o + n) k) <<< ((8 : Int32) &&& 0x3f).toInt64))])) _
        refine XS.iand X42l.here hx rfl (hb hby d1_32) rfl ?_
        show Steps p.tables e below (T42l.setTop (mkF m 33 #[.val (.ref a0), .val (.int (Int32.ofNat o)), .val (.int (Int32.ofNat (o + n))), .val (.long (own_S D (o + n) k)), .second, .val (.int ((Int32.ofNat (o + n - k)) - (1 : Int32)))] [(.int ((D (o + n - 1 - k)) &&& (255 : Int32))), (.long ((own_S D (o + n) k) <<< ((8 : Int32) &&& 0x3f).toInt64))])) _
        refine XS.i2l X42l.here hx rfl (hb hby d1_33) rfl ?_
        show Steps p.tables e below (T42l.setTop (mkF m 34 #[.val (.ref a0), .val (.int (Int32.ofNat o)), .val (.int (Int32.ofNat (o + n))), .val (.long (own_S D (o + n) k)), .second, .val (.int ((Int32.ofNat (o + n - k)) - (1 : Int32)))] [(.long (((D (o + n - 1 - k)) &&& (255 : Int32)).toInt64)), (.long ((own_S D (o + n) k) <<< ((8 : Int32) &&& 0x3f).toInt64))])) _
        refine XS.lor X42l.here hx rfl (hb hby d1_34) rfl ?_
        show Steps p.tables e below (T42l.setTop (mkF m 35 #[.val (.ref a0), .val (.int (Int32.ofNat o)), .val (.int (Int32.ofNat (o + n))), .val (.long (own_S D (o + n) k)), .second, .val (.int ((Int32.ofNat (o + n - k)) - (1 : Int32)))] [(.long (((own_S D (o + n) k) <<< ((8 : Int32) &&& 0x3f).toInt64) ||| (((D (o + n - 1 - k)) &&& (255 : Int32)).toInt64)))])) _
        refine XS.lstoreN X42l.here hx rfl (hb hby d1_35) rfl (l' := #[.val (.ref a0), .val (.int (Int32.ofNat o)), .val (.int (Int32.ofNat (o + n))), .val (.long (((own_S D (o + n) k) <<< ((8 : Int32) &&& 0x3f).toInt64) ||| (((D (o + n - 1 - k)) &&& (255 : Int32)).toInt64))), .second, .val (.int ((Int32.ofNat (o + n - k)) - (1 : Int32)))]) rfl ?_
        show Steps p.tables e below (T42l.setTop (mkF m 36 #[.val (.ref a0), .val (.int (Int32.ofNat o)), .val (.int (Int32.ofNat (o + n))), .val (.long (((own_S D (o + n) k) <<< ((8 : Int32) &&& 0x3f).toInt64) ||| (((D (o + n - 1 - k)) &&& (255 : Int32)).toInt64))), .second, .val (.int ((Int32.ofNat (o + n - k)) - (1 : Int32)))] [])) _
        refine XS.iinc X42l.here hx rfl (hb hby d1_36) rfl (l' := #[.val (.ref a0), .val (.int (Int32.ofNat o)), .val (.int (Int32.ofNat (o + n))), .val (.long (((own_S D (o + n) k) <<< ((8 : Int32) &&& 0x3f).toInt64) ||| (((D (o + n - 1 - k)) &&& (255 : Int32)).toInt64))), .second, .val (.int (((Int32.ofNat (o + n - k)) - (1 : Int32)) + (-1 : Int32)))]) rfl ?_
        show Steps p.tables e below (T42l.setTop (mkF m 39 #[.val (.ref a0), .val (.int (Int32.ofNat o)), .val (.int (Int32.ofNat (o + n))), .val (.long (((own_S D (o + n) k) <<< ((8 : Int32) &&& 0x3f).toInt64) ||| (((D (o + n - 1 - k)) &&& (255 : Int32)).toInt64))), .second, .val (.int (((Int32.ofNat (o + n - k)) - (1 : Int32)) + (-1 : Int32)))] [])) _
        exact kt
      have pre49 : ∀ t, Steps p.tables e below (T42l.setTop (mkF m 15 #[.val (.ref a0), .val (.int (Int32.ofNat o)), .val (.int (Int32.ofNat (o + n))), .val (.long (((own_S D (o + n) k) <<< ((8 : Int32) &&& 0x3f).toInt64) ||| (((D (o + n - 1 - k)) &&& (255 : Int32)).toInt64))), .second, .val (.int (((Int32.ofNat (o + n - k)) - (1 : Int32)) + (-1 : Int32)))] [])) t → Steps p.tables e below (s₁.setTop (entryFrame m #[(.ref a0), (.int (Int32.ofNat o)), (.int (Int32.ofNat (o + n)))] 6)) t := fun t kt => by
        refine pre48 _ ?_
        show Steps p.tables e below (T42l.setTop (mkF m 39 #[.val (.ref a0), .val (.int (Int32.ofNat o)), .val (.int (Int32.ofNat (o + n))), .val (.long (((own_S D (o + n) k) <<< ((8 : Int32) &&& 0x3f).toInt64) ||| (((D (o + n - 1 - k)) &&& (255 : Int32)).toInt64))), .second, .val (.int (((Int32.ofNat (o + n - k)) - (1 : Int32)) + (-1 : Int32)))] [])) _
        refine XS.goto X42l.here hx rfl (pc0 := 39) (pc' := 15) rfl (hb hby d1_39) (by decide) (by decide) ?_
        show Steps p.tables e below (T42l.setTop (mkF m 15 #[.val (.ref a0), .val (.int (Int32.ofNat o)), .val (.int (Int32.ofNat (o + n))), .val (.long (((own_S D (o + n) k) <<< ((8 : Int32) &&& 0x3f).toInt64) ||| (((D (o + n - 1 - k)) &&& (255 : Int32)).toInt64))), .second, .val (.int (((Int32.ofNat (o + n - k)) - (1 : Int32)) + (-1 : Int32)))] [])) _
        exact kt
      have pre50 : ∀ t, Steps p.tables e below (T42l.setTop (mkF m 15 #[.val (.ref a0), .val (.int (Int32.ofNat o)), .val (.int (Int32.ofNat (o + n))), .val (.long (((own_S D (o + n) k) <<< ((8 : Int32) &&& 0x3f).toInt64) ||| (((D (o + n - 1 - k)) &&& (255 : Int32)).toInt64))), .second, .val (.int ((Int32.ofNat (o + n - (k + 1))) - (1 : Int32)))] [])) t → Steps p.tables e below (s₁.setTop (entryFrame m #[(.ref a0), (.int (Int32.ofNat o)), (.int (Int32.ofNat (o + n)))] 6)) t := by
        have q := pre49
        rw [own_dstep (a := o + n) (k := k) (by omega) (by omega)] at q
        exact q
      have pre51 : ∀ t, Steps p.tables e below (T42l.setTop (mkF m 15 #[.val (.ref a0), .val (.int (Int32.ofNat o)), .val (.int (Int32.ofNat (o + n))), .val (.long (own_S D (o + n) (k + 1))), .second, .val (.int ((Int32.ofNat (o + n - (k + 1))) - (1 : Int32)))] [])) t → Steps p.tables e below (s₁.setTop (entryFrame m #[(.ref a0), (.int (Int32.ofNat o)), (.int (Int32.ofNat (o + n)))] 6)) t := pre50
      exact ⟨_, _, X42l, N42l, K42l, I42_0l, pre51⟩
  obtain ⟨T42o, L42o, X42o, N42o, K42o, I42_0o, pre42o⟩ := loop42 n (Nat.le_refl _)
  have Zs42o : n0 ≤ T42o.heap.size := Nat.le_trans Z0 K42o.1
  have hd := own_dn' (a := o + n) (k := n) (by omega) (by omega)
  have ho := own_nat (n := o) (by omega)
  have pre52 : ∀ t, Steps p.tables e below (T42o.setTop (mkF m 18 #[.val (.ref a0), .val (.int (Int32.ofNat o)), .val (.int (Int32.ofNat (o + n))), .val (.long (own_S D (o + n) n)), .second, .val (.int ((Int32.ofNat (o + n - n)) - (1 : Int32)))] [(.int (Int32.ofNat o)), (.int ((Int32.ofNat (o + n - n)) - (1 : Int32)))])) t → Steps p.tables e below (s₁.setTop (entryFrame m #[(.ref a0), (.int (Int32.ofNat o)), (.int (Int32.ofNat (o + n)))] 6)) t := fun t kt => by
    refine pre42o _ ?_
    show Steps p.tables e below (T42o.setTop (mkF m 15 #[.val (.ref a0), .val (.int (Int32.ofNat o)), .val (.int (Int32.ofNat (o + n))), .val (.long (own_S D (o + n) n)), .second, .val (.int ((Int32.ofNat (o + n - n)) - (1 : Int32)))] [])) _
    refine XS.iload X42o.here hx rfl (hb hby d1_15) rfl ?_
    show Steps p.tables e below (T42o.setTop (mkF m 17 #[.val (.ref a0), .val (.int (Int32.ofNat o)), .val (.int (Int32.ofNat (o + n))), .val (.long (own_S D (o + n) n)), .second, .val (.int ((Int32.ofNat (o + n - n)) - (1 : Int32)))] [(.int ((Int32.ofNat (o + n - n)) - (1 : Int32)))])) _
    refine XS.iloadN X42o.here hx rfl (hb hby d1_17) rfl ?_
    show Steps p.tables e below (T42o.setTop (mkF m 18 #[.val (.ref a0), .val (.int (Int32.ofNat o)), .val (.int (Int32.ofNat (o + n))), .val (.long (own_S D (o + n) n)), .second, .val (.int ((Int32.ofNat (o + n - n)) - (1 : Int32)))] [(.int (Int32.ofNat o)), (.int ((Int32.ofNat (o + n - n)) - (1 : Int32)))])) _
    exact kt
  have pre53 : ∀ t, Steps p.tables e below (T42o.setTop (mkF m 42 #[.val (.ref a0), .val (.int (Int32.ofNat o)), .val (.int (Int32.ofNat (o + n))), .val (.long (own_S D (o + n) n)), .second, .val (.int ((Int32.ofNat (o + n - n)) - (1 : Int32)))] [])) t → Steps p.tables e below (s₁.setTop (entryFrame m #[(.ref a0), (.int (Int32.ofNat o)), (.int (Int32.ofNat (o + n)))] 6)) t := fun t kt => by
    refine pre52 _ ?_
    show Steps p.tables e below (T42o.setTop (mkF m 18 #[.val (.ref a0), .val (.int (Int32.ofNat o)), .val (.int (Int32.ofNat (o + n))), .val (.long (own_S D (o + n) n)), .second, .val (.int ((Int32.ofNat (o + n - n)) - (1 : Int32)))] [(.int (Int32.ofNat o)), (.int ((Int32.ofNat (o + n - n)) - (1 : Int32)))])) _
    refine XS.icmpYes X42o.here hx rfl (pc0 := 18) (pc' := 42) rfl (hb hby d1_18) rfl (tlt (by rw [Int32.lt_iff_toInt_lt, hd, ho]; omega)).1 (by decide) (by decide) ?_
    show Steps p.tables e below (T42o.setTop (mkF m 42 #[.val (.ref a0), .val (.int (Int32.ofNat o)), .val (.int (Int32.ofNat (o + n))), .val (.long (own_S D (o + n) n)), .second, .val (.int ((Int32.ofNat (o + n - n)) - (1 : Int32)))] [])) _
    exact kt
  have pre54 : ∀ t, Steps p.tables e below (T42o.setTop (mkF m 46 #[.val (.ref a0), .val (.int (Int32.ofNat o)), .val (.int (Int32.ofNat (o + n))), .val (.long (own_S D (o + n) n)), .second, .val (.int ((Int32.ofNat (o + n - n)) - (1 : Int32)))] [(.int ((Int32.ofNat (o + n)) - (Int32.ofNat o))), (.long (own_S D (o + n) n))])) t → Steps p.tables e below (s₁.setTop (entryFrame m #[(.ref a0), (.int (Int32.ofNat o)), (.int (Int32.ofNat (o + n)))] 6)) t := fun t kt => by
    refine pre53 _ ?_
    show Steps p.tables e below (T42o.setTop (mkF m 42 #[.val (.ref a0), .val (.int (Int32.ofNat o)), .val (.int (Int32.ofNat (o + n))), .val (.long (own_S D (o + n) n)), .second, .val (.int ((Int32.ofNat (o + n - n)) - (1 : Int32)))] [])) _
    refine XS.lloadN X42o.here hx rfl (hb hby d1_42) rfl ?_
    show Steps p.tables e below (T42o.setTop (mkF m 43 #[.val (.ref a0), .val (.int (Int32.ofNat o)), .val (.int (Int32.ofNat (o + n))), .val (.long (own_S D (o + n) n)), .second, .val (.int ((Int32.ofNat (o + n - n)) - (1 : Int32)))] [(.long (own_S D (o + n) n))])) _
    refine XS.iloadN X42o.here hx rfl (hb hby d1_43) rfl ?_
    show Steps p.tables e below (T42o.setTop (mkF m 44 #[.val (.ref a0), .val (.int (Int32.ofNat o)), .val (.int (Int32.ofNat (o + n))), .val (.long (own_S D (o + n) n)), .second, .val (.int ((Int32.ofNat (o + n - n)) - (1 : Int32)))] [(.int (Int32.ofNat (o + n))), (.long (own_S D (o + n) n))])) _
    refine XS.iloadN X42o.here hx rfl (hb hby d1_44) rfl ?_
    show Steps p.tables e below (T42o.setTop (mkF m 45 #[.val (.ref a0), .val (.int (Int32.ofNat o)), .val (.int (Int32.ofNat (o + n))), .val (.long (own_S D (o + n) n)), .second, .val (.int ((Int32.ofNat (o + n - n)) - (1 : Int32)))] [(.int (Int32.ofNat o)), (.int (Int32.ofNat (o + n))), (.long (own_S D (o + n) n))])) _
    refine XS.isub X42o.here hx rfl (hb hby d1_45) rfl ?_
    show Steps p.tables e below (T42o.setTop (mkF m 46 #[.val (.ref a0), .val (.int (Int32.ofNat o)), .val (.int (Int32.ofNat (o + n))), .val (.long (own_S D (o + n) n)), .second, .val (.int ((Int32.ofNat (o + n - n)) - (1 : Int32)))] [(.int ((Int32.ofNat (o + n)) - (Int32.ofNat o))), (.long (own_S D (o + n) n))])) _
    exact kt
  have pre55 : ∀ t, Steps p.tables e below (T42o.setTop (mkF m 46 #[.val (.ref a0), .val (.int (Int32.ofNat o)), .val (.int (Int32.ofNat (o + n))), .val (.long (own_S D (o + n) n)), .second, .val (.int ((Int32.ofNat (o + n - n)) - (1 : Int32)))] [(.int (Int32.ofNat n)), (.long (own_S D (o + n) n))])) t → Steps p.tables e below (s₁.setTop (entryFrame m #[(.ref a0), (.int (Int32.ofNat o)), (.int (Int32.ofNat (o + n)))] 6)) t := by
    have q := pre54
    rw [own_sub (o := o) (n := n) (by omega)] at q
    exact q
  have pre56 : ∀ t, Steps p.tables e below (T42o.setTop (mkF m 93 #[.val (.ref a0), .val (.int (Int32.ofNat o)), .val (.int (Int32.ofNat (o + n))), .val (.long ((own_S D (o + n) n) ||| (((Int32.ofNat n).toInt64) <<< ((56 : Int32) &&& 0x3f).toInt64))), .second, .val (.int ((Int32.ofNat (o + n - n)) - (1 : Int32)))] [(.long ((own_S D (o + n) n) ||| (((Int32.ofNat n).toInt64) <<< ((56 : Int32) &&& 0x3f).toInt64)))])) t → Steps p.tables e below (s₁.setTop (entryFrame m #[(.ref a0), (.int (Int32.ofNat o)), (.int (Int32.ofNat (o + n)))] 6)) t := fun t kt => by
    refine pre55 _ ?_
    show Steps p.tables e below (T42o.setTop (mkF m 46 #[.val (.ref a0), .val (.int (Int32.ofNat o)), .val (.int (Int32.ofNat (o + n))), .val (.long (own_S D (o + n) n)), .second, .val (.int ((Int32.ofNat (o + n - n)) - (1 : Int32)))] [(.int (Int32.ofNat n)), (.long (own_S D (o + n) n))])) _
    refine XS.i2l X42o.here hx rfl (hb hby d1_46) rfl ?_
    show Steps p.tables e below (T42o.setTop (mkF m 47 #[.val (.ref a0), .val (.int (Int32.ofNat o)), .val (.int (Int32.ofNat (o + n))), .val (.long (own_S D (o + n) n)), .second, .val (.int ((Int32.ofNat (o + n - n)) - (1 : Int32)))] [(.long ((Int32.ofNat n).toInt64)), (.long (own_S D (o + n) n))])) _
    refine XS.bipush X42o.here hx rfl (hb hby d1_47) ?_
    show Steps p.tables e below (T42o.setTop (mkF m 49 #[.val (.ref a0), .val (.int (Int32.ofNat o)), .val (.int (Int32.ofNat (o + n))), .val (.long (own_S D (o + n) n)), .second, .val (.int ((Int32.ofNat (o + n - n)) - (1 : Int32)))] [(.int (56 : Int32)), (.long ((Int32.ofNat n).toInt64)), (.long (own_S D (o + n) n))])) _
    refine XS.lshl X42o.here hx rfl (hb hby d1_49) rfl ?_
    show Steps p.tables e below (T42o.setTop (mkF m 50 #[.val (.ref a0), .val (.int (Int32.ofNat o)), .val (.int (Int32.ofNat (o + n))), .val (.long (own_S D (o + n) n)), .second, .val (.int ((Int32.ofNat (o + n - n)) - (1 : Int32)))] [(.long (((Int32.ofNat n).toInt64) <<< ((56 : Int32) &&& 0x3f).toInt64)), (.long (own_S D (o + n) n))])) _
    refine XS.lor X42o.here hx rfl (hb hby d1_50) rfl ?_
    show Steps p.tables e below (T42o.setTop (mkF m 51 #[.val (.ref a0), .val (.int (Int32.ofNat o)), .val (.int (Int32.ofNat (o + n))), .val (.long (own_S D (o + n) n)), .second, .val (.int ((Int32.ofNat (o + n - n)) - (1 : Int32)))] [(.long ((own_S D (o + n) n) ||| (((Int32.ofNat n).toInt64) <<< ((56 : Int32) &&& 0x3f).toInt64)))])) _
    refine XS.lstoreN X42o.here hx rfl (hb hby d1_51) rfl (l' := #[.val (.ref a0), .val (.int (Int32.ofNat o)), .val (.int (Int32.ofNat (o + n))), .val (.long ((own_S D (o + n) n) ||| (((Int32.ofNat n).toInt64) <<< ((56 : Int32) &&& 0x3f).toInt64))), .second, .val (.int ((Int32.ofNat (o + n - n)) - (1 : Int32)))]) rfl ?_
    show Steps p.tables e below (T42o.setTop (mkF m 52 #[.val (.ref a0), .val (.int (Int32.ofNat o)), .val (.int (Int32.ofNat (o + n))), .val (.long ((own_S D (o + n) n) ||| (((Int32.ofNat n).toInt64) <<< ((56 : Int32) &&& 0x3f).toInt64))), .second, .val (.int ((Int32.ofNat (o + n - n)) - (1 : Int32)))] [])) _
    refine XS.goto X42o.here hx rfl (pc0 := 52) (pc' := 92) rfl (hb hby d1_52) (by decide) (by decide) ?_
    show Steps p.tables e below (T42o.setTop (mkF m 92 #[.val (.ref a0), .val (.int (Int32.ofNat o)), .val (.int (Int32.ofNat (o + n))), .val (.long ((own_S D (o + n) n) ||| (((Int32.ofNat n).toInt64) <<< ((56 : Int32) &&& 0x3f).toInt64))), .second, .val (.int ((Int32.ofNat (o + n - n)) - (1 : Int32)))] [])) _
    refine XS.lloadN X42o.here hx rfl (hb hby d1_92) rfl ?_
    show Steps p.tables e below (T42o.setTop (mkF m 93 #[.val (.ref a0), .val (.int (Int32.ofNat o)), .val (.int (Int32.ofNat (o + n))), .val (.long ((own_S D (o + n) n) ||| (((Int32.ofNat n).toInt64) <<< ((56 : Int32) &&& 0x3f).toInt64))), .second, .val (.int ((Int32.ofNat (o + n - n)) - (1 : Int32)))] [(.long ((own_S D (o + n) n) ||| (((Int32.ofNat n).toInt64) <<< ((56 : Int32) &&& 0x3f).toInt64)))])) _
    exact kt
  obtain ⟨fs, hr, hrun, hended, hW, hsame⟩ := X42o.leave (v := some (.long ((own_S D (o + n) n) ||| ((Int32.ofNat n).toInt64 <<< ((56 : Int32) &&& 0x3f).toInt64)))) (fun h => by rw [Bd.returns] at h; cases h)
  refine ⟨_, _, pre56 _ ?_, hrun, hended, _, _, rfl, ?_, ⟨_, rfl⟩, hW, hsame.mono (by decide) (by decide)⟩
  · show Steps p.tables e below (T42o.setTop (mkF m 93 #[.val (.ref a0), .val (.int (Int32.ofNat o)), .val (.int (Int32.ofNat (o + n))), .val (.long ((own_S D (o + n) n) ||| (((Int32.ofNat n).toInt64) <<< ((56 : Int32) &&& 0x3f).toInt64))), .second, .val (.int ((Int32.ofNat (o + n - n)) - (1 : Int32)))] [(.long ((own_S D (o + n) n) ||| (((Int32.ofNat n).toInt64) <<< ((56 : Int32) &&& 0x3f).toInt64)))])) _
    exact Jvm.Stand.lreturnOut X42o hx Bd.returns (hb hby d1_93) hr
  · show Q1_s o n D h0 n0 _ T42o.heap _
    exact ⟨rfl, N42o, K42o⟩
def Q1_l (o n : Nat) (D : Nat → Int32) (h0 : Heap) (n0 : Nat) (v : Option Value) (h : Heap) (L : List Loc) : Prop := v = some (.long ((-72057594037927936 : Int64) ||| ((own_H D o n) &&& (72057594037927935 : Int64)))) ∧ Fr n0 L ∧ Keep h0 h [] 
set_option maxRecDepth 65536 in
set_option maxHeartbeats 40000000 in
theorem rm1_l (l : Launch) (Z : State) (aZ : Array Value) (hw : ∀ d ∈ tables_1, d.before aZ Z = true) (ws : List Jvm.Cond) (a0 : Addr) (o n : Nat) (kd : ClassId) (vs : List Value) (D : Nat → Int32) (h0 : Heap) (n0 : Nat) (Z0 : n0 ≤ h0.size) (V_a : Arv Z h0 a0 kd .byte (16 : Int32) vs (.int (0 : Int32))) (hD : ∀ k, k < 16 → vs.getD k (.int (0 : Int32)) = .int (D k)) (hon : o + n ≤ 16) (hs : 7 < n) :
    MetFree l (⟨"com/example/attestry/attestry/ParticipantNames", "key", "([BII)J"⟩ : MethodName) (head1 (Jvm.Cond.code (⟨"com/example/attestry/attestry/ParticipantNames", "key", "([BII)J"⟩ : MethodName) prog_33_method_14_code 6 (some .long) :: ws) ({ frames := 0, cells := 0, slots := 0, locals := 0 } : Room)) (fun a U => a = #[(.ref a0), (.int (Int32.ofNat o)), (.int (Int32.ofNat (o + n)))] ∧ Z.Warmed39 U.vm ∧ U.heap = h0) (fun _ _ _ _ _ => True) (fun _ U oc U' => ∃ v L, oc = .returned v ∧ Q1_l o n D h0 n0 v U'.heap L ∧ FrameEnd U oc U' L ({ frames := 0, cells := 0, slots := 0, locals := 0 } : Room).cells ({ frames := 0, cells := 0, slots := 0, locals := 0 } : Room).slots) := by
  refine MetFree.of_bodySF (plainFor_of_name pn_1) hisR ?_
  intro p e s m args below meth c s₁ Bd hml0 hP hK
  obtain ⟨rfl, hZ, hh⟩ := hP
  have hx := Bd.exec
  have hby := Bd.bytes
  have hml : c.maxLocals = 6 := hml0
  have hown : s.vm.findClass "com/example/attestry/attestry/ParticipantNames" = some m.cls := findClass_of_methodNamed Bd.named
  have hnm := (name_of_methodNamed Bd.named Bd.method).1
  have X0 : Stand p l e ({ frames := 0, cells := 0, slots := 0, locals := 0 } : Room) s m #[(.ref a0), (.int (Int32.ofNat o)), (.int (Int32.ofNat (o + n)))] below meth c s₁ [] 0 0 := Stand.of_body Bd
  have e0 : s₁.heap = h0 := by rw [← hh, Bd.state]; rfl
  have N0 := Fr.nil n0
  have pre0 : ∀ t, Steps p.tables e below (s₁.setTop (mkF m 0 #[.val (.ref a0), .val (.int (Int32.ofNat o)), .val (.int (Int32.ofNat (o + n))), .unset, .unset, .unset] [])) t → Steps p.tables e below (s₁.setTop (entryFrame m #[(.ref a0), (.int (Int32.ofNat o)), (.int (Int32.ofNat (o + n)))] 6)) t := fun t kt => castTop (ef_1 m a0 (Int32.ofNat o) (Int32.ofNat (o + n))) kt
  have pre57 : ∀ t, Steps p.tables e below (s₁.setTop (mkF m 5 #[.val (.ref a0), .val (.int (Int32.ofNat o)), .val (.int (Int32.ofNat (o + n))), .val (.long (0 : Int64)), .second, .unset] [(.int ((Int32.ofNat (o + n)) - (Int32.ofNat o)))])) t → Steps p.tables e below (s₁.setTop (entryFrame m #[(.ref a0), (.int (Int32.ofNat o)), (.int (Int32.ofNat (o + n)))] 6)) t := fun t kt => by
    refine pre0 _ ?_
    show Steps p.tables e below (s₁.setTop (mkF m 0 #[.val (.ref a0), .val (.int (Int32.ofNat o)), .val (.int (Int32.ofNat (o + n))), .unset, .unset, .unset] [])) _
    refine XS.lconst X0.here hx rfl (hb hby d1_0) ?_
    show Steps p.tables e below (s₁.setTop (mkF m 1 #[.val (.ref a0), .val (.int (Int32.ofNat o)), .val (.int (Int32.ofNat (o + n))), .unset, .unset, .unset] [(.long (0 : Int64))])) _
    refine XS.lstoreN X0.here hx rfl (hb hby d1_1) rfl (l' := #[.val (.ref a0), .val (.int (Int32.ofNat o)), .val (.int (Int32.ofNat (o + n))), .val (.long (0 : Int64)), .second, .unset]) rfl ?_
    show Steps p.tables e below (s₁.setTop (mkF m 2 #[.val (.ref a0), .val (.int (Int32.ofNat o)), .val (.int (Int32.ofNat (o + n))), .val (.long (0 : Int64)), .second, .unset] [])) _
    refine XS.iloadN X0.here hx rfl (hb hby d1_2) rfl ?_
    show Steps p.tables e below (s₁.setTop (mkF m 3 #[.val (.ref a0), .val (.int (Int32.ofNat o)), .val (.int (Int32.ofNat (o + n))), .val (.long (0 : Int64)), .second, .unset] [(.int (Int32.ofNat (o + n)))])) _
    refine XS.iloadN X0.here hx rfl (hb hby d1_3) rfl ?_
    show Steps p.tables e below (s₁.setTop (mkF m 4 #[.val (.ref a0), .val (.int (Int32.ofNat o)), .val (.int (Int32.ofNat (o + n))), .val (.long (0 : Int64)), .second, .unset] [(.int (Int32.ofNat o)), (.int (Int32.ofNat (o + n)))])) _
    refine XS.isub X0.here hx rfl (hb hby d1_4) rfl ?_
    show Steps p.tables e below (s₁.setTop (mkF m 5 #[.val (.ref a0), .val (.int (Int32.ofNat o)), .val (.int (Int32.ofNat (o + n))), .val (.long (0 : Int64)), .second, .unset] [(.int ((Int32.ofNat (o + n)) - (Int32.ofNat o)))])) _
    exact kt
  have pre58 : ∀ t, Steps p.tables e below (s₁.setTop (mkF m 5 #[.val (.ref a0), .val (.int (Int32.ofNat o)), .val (.int (Int32.ofNat (o + n))), .val (.long (0 : Int64)), .second, .unset] [(.int (Int32.ofNat n))])) t → Steps p.tables e below (s₁.setTop (entryFrame m #[(.ref a0), (.int (Int32.ofNat o)), (.int (Int32.ofNat (o + n)))] 6)) t := by
    have q := pre57
    rw [own_sub (o := o) (n := n) (by omega)] at q
    exact q
  have pre59 : ∀ t, Steps p.tables e below (s₁.setTop (mkF m 7 #[.val (.ref a0), .val (.int (Int32.ofNat o)), .val (.int (Int32.ofNat (o + n))), .val (.long (0 : Int64)), .second, .unset] [(.int (7 : Int32)), (.int (Int32.ofNat n))])) t → Steps p.tables e below (s₁.setTop (entryFrame m #[(.ref a0), (.int (Int32.ofNat o)), (.int (Int32.ofNat (o + n)))] 6)) t := fun t kt => by
    refine pre58 _ ?_
    show Steps p.tables e below (s₁.setTop (mkF m 5 #[.val (.ref a0), .val (.int (Int32.ofNat o)), .val (.int (Int32.ofNat (o + n))), .val (.long (0 : Int64)), .second, .unset] [(.int (Int32.ofNat n))])) _
    refine XS.bipush X0.here hx rfl (hb hby d1_5) ?_
    show Steps p.tables e below (s₁.setTop (mkF m 7 #[.val (.ref a0), .val (.int (Int32.ofNat o)), .val (.int (Int32.ofNat (o + n))), .val (.long (0 : Int64)), .second, .unset] [(.int (7 : Int32)), (.int (Int32.ofNat n))])) _
    exact kt
  have h7 : (7 : Int32) < (Int32.ofNat n) ↔ 7 < n := own_ltn (i := 7) (n := n) (by omega) (by omega)
  have pre60 : ∀ t, Steps p.tables e below (s₁.setTop (mkF m 55 #[.val (.ref a0), .val (.int (Int32.ofNat o)), .val (.int (Int32.ofNat (o + n))), .val (.long (0 : Int64)), .second, .unset] [])) t → Steps p.tables e below (s₁.setTop (entryFrame m #[(.ref a0), (.int (Int32.ofNat o)), (.int (Int32.ofNat (o + n)))] 6)) t := fun t kt => by
    refine pre59 _ ?_
    show Steps p.tables e below (s₁.setTop (mkF m 7 #[.val (.ref a0), .val (.int (Int32.ofNat o)), .val (.int (Int32.ofNat (o + n))), .val (.long (0 : Int64)), .second, .unset] [(.int (7 : Int32)), (.int (Int32.ofNat n))])) _
    refine XS.icmpYes X0.here hx rfl (pc0 := 7) (pc' := 55) rfl (hb hby d1_7) rfl (tlt (h7.mpr hs)).2.2.1 (by decide) (by decide) ?_
    show Steps p.tables e below (s₁.setTop (mkF m 55 #[.val (.ref a0), .val (.int (Int32.ofNat o)), .val (.int (Int32.ofNat (o + n))), .val (.long (0 : Int64)), .second, .unset] [])) _
    exact kt
  have pre61 : ∀ t, Steps p.tables e below (s₁.setTop (mkF m 58 #[.val (.ref a0), .val (.int (Int32.ofNat o)), .val (.int (Int32.ofNat (o + n))), .val (.long (0 : Int64)), .second, .val (.int (Int32.ofNat o))] [])) t → Steps p.tables e below (s₁.setTop (entryFrame m #[(.ref a0), (.int (Int32.ofNat o)), (.int (Int32.ofNat (o + n)))] 6)) t := fun t kt => by
    refine pre60 _ ?_
    show Steps p.tables e below (s₁.setTop (mkF m 55 #[.val (.ref a0), .val (.int (Int32.ofNat o)), .val (.int (Int32.ofNat (o + n))), .val (.long (0 : Int64)), .second, .unset] [])) _
    refine XS.iloadN X0.here hx rfl (hb hby d1_55) rfl ?_
    show Steps p.tables e below (s₁.setTop (mkF m 56 #[.val (.ref a0), .val (.int (Int32.ofNat o)), .val (.int (Int32.ofNat (o + n))), .val (.long (0 : Int64)), .second, .unset] [(.int (Int32.ofNat o))])) _
    refine XS.istore X0.here hx rfl (hb hby d1_56) rfl (l' := #[.val (.ref a0), .val (.int (Int32.ofNat o)), .val (.int (Int32.ofNat (o + n))), .val (.long (0 : Int64)), .second, .val (.int (Int32.ofNat o))]) rfl ?_
    show Steps p.tables e below (s₁.setTop (mkF m 58 #[.val (.ref a0), .val (.int (Int32.ofNat o)), .val (.int (Int32.ofNat (o + n))), .val (.long (0 : Int64)), .second, .val (.int (Int32.ofNat o))] [])) _
    exact kt
  have K0 := Keep.refl h0 []
  have loop62 : ∀ k : Nat, k ≤ n → ∃ (T : State) (L : List Loc), Stand p l e ({ frames := 0, cells := 0, slots := 0, locals := 0 } : Room) s m #[(.ref a0), (.int (Int32.ofNat o)), (.int (Int32.ofNat (o + n)))] below meth c T L 0 0 ∧ Fr n0 L ∧ Keep h0 T.heap [] ∧ Arv Z T.heap a0 kd .byte (16 : Int32) vs (.int (0 : Int32)) ∧ ∀ t, Steps p.tables e below (T.setTop (mkF m 58 #[.val (.ref a0), .val (.int (Int32.ofNat o)), .val (.int (Int32.ofNat (o + n))), .val (.long (own_H D o k)), .second, .val (.int (Int32.ofNat (o + k)))] [])) t → Steps p.tables e below (s₁.setTop (entryFrame m #[(.ref a0), (.int (Int32.ofNat o)), (.int (Int32.ofNat (o + n)))] 6)) t := by
    intro k
    induction k with
    | zero => intro _; exact ⟨s₁, _, X0, N0, by rw [e0]; exact K0, by rw [e0]; exact V_a, pre61⟩
    | succ k ih =>
      intro hk
      obtain ⟨T62l, L62l, X62l, N62l, K62l, I62_0l, pre62l⟩ := ih (by omega)
      have Zs62l : n0 ≤ T62l.heap.size := Nat.le_trans Z0 K62l.1
      have pre63 : ∀ t, Steps p.tables e below (T62l.setTop (mkF m 61 #[.val (.ref a0), .val (.int (Int32.ofNat o)), .val (.int (Int32.ofNat (o + n))), .val (.long (own_H D o k)), .second, .val (.int (Int32.ofNat (o + k)))] [(.int (Int32.ofNat (o + n))), (.int (Int32.ofNat (o + k)))])) t → Steps p.tables e below (s₁.setTop (entryFrame m #[(.ref a0), (.int (Int32.ofNat o)), (.int (Int32.ofNat (o + n)))] 6)) t := fun t kt => by
        refine pre62l _ ?_
        show Steps p.tables e below (T62l.setTop (mkF m 58 #[.val (.ref a0), .val (.int (Int32.ofNat o)), .val (.int (Int32.ofNat (o + n))), .val (.long (own_H D o k)), .second, .val (.int (Int32.ofNat (o + k)))] [])) _
        refine XS.iload X62l.here hx rfl (hb hby d1_58) rfl ?_
        show Steps p.tables e below (T62l.setTop (mkF m 60 #[.val (.ref a0), .val (.int (Int32.ofNat o)), .val (.int (Int32.ofNat (o + n))), .val (.long (own_H D o k)), .second, .val (.int (Int32.ofNat (o + k)))] [(.int (Int32.ofNat (o + k)))])) _
        refine XS.iloadN X62l.here hx rfl (hb hby d1_60) rfl ?_
        show Steps p.tables e below (T62l.setTop (mkF m 61 #[.val (.ref a0), .val (.int (Int32.ofNat o)), .val (.int (Int32.ofNat (o + n))), .val (.long (own_H D o k)), .second, .val (.int (Int32.ofNat (o + k)))] [(.int (Int32.ofNat (o + n))), (.int (Int32.ofNat (o + k)))])) _
        exact kt
      have pre64 : ∀ t, Steps p.tables e below (T62l.setTop (mkF m 64 #[.val (.ref a0), .val (.int (Int32.ofNat o)), .val (.int (Int32.ofNat (o + n))), .val (.long (own_H D o k)), .second, .val (.int (Int32.ofNat (o + k)))] [])) t → Steps p.tables e below (s₁.setTop (entryFrame m #[(.ref a0), (.int (Int32.ofNat o)), (.int (Int32.ofNat (o + n)))] 6)) t := fun t kt => by
        refine pre63 _ ?_
        show Steps p.tables e below (T62l.setTop (mkF m 61 #[.val (.ref a0), .val (.int (Int32.ofNat o)), .val (.int (Int32.ofNat (o + n))), .val (.long (own_H D o k)), .second, .val (.int (Int32.ofNat (o + k)))] [(.int (Int32.ofNat (o + n))), (.int (Int32.ofNat (o + k)))])) _
        refine XS.icmpNo X62l.here hx rfl (hb hby d1_61) rfl (tlt ((own_ltn (by omega) (by omega)).mpr (by omega))).2.1 ?_
        show Steps p.tables e below (T62l.setTop (mkF m 64 #[.val (.ref a0), .val (.int (Int32.ofNat o)), .val (.int (Int32.ofNat (o + n))), .val (.long (own_H D o k)), .second, .val (.int (Int32.ofNat (o + k)))] [])) _
        exact kt
      have pre65 : ∀ t, Steps p.tables e below (T62l.setTop (mkF m 72 #[.val (.ref a0), .val (.int (Int32.ofNat o)), .val (.int (Int32.ofNat (o + n))), .val (.long (own_H D o k)), .second, .val (.int (Int32.ofNat (o + k)))] [(.int (Int32.ofNat (o + k))), (.ref a0), (.long ((31 : Int64) * (own_H D o k)))])) t → Steps p.tables e below (s₁.setTop (entryFrame m #[(.ref a0), (.int (Int32.ofNat o)), (.int (Int32.ofNat (o + n)))] 6)) t := fun t kt => by
        refine pre64 _ ?_
        show Steps p.tables e below (T62l.setTop (mkF m 64 #[.val (.ref a0), .val (.int (Int32.ofNat o)), .val (.int (Int32.ofNat (o + n))), .val (.long (own_H D o k)), .second, .val (.int (Int32.ofNat (o + k)))] [])) _
        refine X62l.ldc2Long hx hown (mvT hZ (hw _ (List.mem_of_getElem? (i := 10) rfl))) (g := (mkF m 64 #[.val (.ref a0), .val (.int (Int32.ofNat o)), .val (.int (Int32.ofNat (o + n))), .val (.long (own_H D o k)), .second, .val (.int (Int32.ofNat (o + k)))] [])) rfl (hb hby d1_64) _ ?_
        show Steps p.tables e below (T62l.setTop (mkF m 67 #[.val (.ref a0), .val (.int (Int32.ofNat o)), .val (.int (Int32.ofNat (o + n))), .val (.long (own_H D o k)), .second, .val (.int (Int32.ofNat (o + k)))] [(.long (31 : Int64))])) _
        refine XS.lloadN X62l.here hx rfl (hb hby d1_67) rfl ?_
        show Steps p.tables e below (T62l.setTop (mkF m 68 #[.val (.ref a0), .val (.int (Int32.ofNat o)), .val (.int (Int32.ofNat (o + n))), .val (.long (own_H D o k)), .second, .val (.int (Int32.ofNat (o + k)))] [(.long (own_H D o k)), (.long (31 : Int64))])) _
        refine XS.lmul X62l.here hx rfl (hb hby d1_68) rfl ?_
        show Steps p.tables e below (T62l.setTop (mkF m 69 #[.val (.ref a0), .val (.int (Int32.ofNat o)), .val (.int (Int32.ofNat (o + n))), .val (.long (own_H D o k)), .second, .val (.int (Int32.ofNat (o + k)))] [(.long ((31 : Int64) * (own_H D o k)))])) _
        refine XS.aloadN X62l.here hx rfl (hb hby d1_69) rfl rfl ?_
        show Steps p.tables e below (T62l.setTop (mkF m 70 #[.val (.ref a0), .val (.int (Int32.ofNat o)), .val (.int (Int32.ofNat (o + n))), .val (.long (own_H D o k)), .second, .val (.int (Int32.ofNat (o + k)))] [(.ref a0), (.long ((31 : Int64) * (own_H D o k)))])) _
        refine XS.iload X62l.here hx rfl (hb hby d1_70) rfl ?_
        show Steps p.tables e below (T62l.setTop (mkF m 72 #[.val (.ref a0), .val (.int (Int32.ofNat o)), .val (.int (Int32.ofNat (o + n))), .val (.long (own_H D o k)), .second, .val (.int (Int32.ofNat (o + k)))] [(.int (Int32.ofNat (o + k))), (.ref a0), (.long ((31 : Int64) * (own_H D o k)))])) _
        exact kt
      have hin := own_in (own_nat (n := o + k) (by omega)) (by omega)
      have Vo_a0_66 := I62_0l
      obtain ⟨cl_a0_66, Ar_a0_66, q_a0_66, S_a0_66, M_a0_66, H_a0_66, G_a0_66⟩ := Vo_a0_66
      have hin66 : ¬ ((Int32.ofNat (o + k)) < 0 ∨ cl_a0_66.slots.size ≤ ((Int32.ofNat (o + k))).toNatClampNeg) := inb_of S_a0_66 ⟨hin.1, hin.2.1⟩
      have hat66 : cl_a0_66.slots[((Int32.ofNat (o + k))).toNatClampNeg]? = some (.int (D (o + k))) := H_a0_66.at (inb_of S_a0_66 ⟨hin.1, hin.2.1⟩) (by rw [hin.2.2]; exact hD _ (by omega))
      have pre67 : ∀ t, Steps p.tables e below (T62l.setTop (mkF m 73 #[.val (.ref a0), .val (.int (Int32.ofNat o)), .val (.int (Int32.ofNat (o + n))), .val (.long (own_H D o k)), .second, .val (.int (Int32.ofNat (o + k)))] [(.int (D (o + k))), (.long ((31 : Int64) * (own_H D o k)))])) t → Steps p.tables e below (s₁.setTop (entryFrame m #[(.ref a0), (.int (Int32.ofNat o)), (.int (Int32.ofNat (o + n)))] 6)) t := fun t kt => pre65 _ (X62l.baloadBytes hx (j := (Int32.ofNat (o + k))) (v := (.int (D (o + k)))) Ar_a0_66.1 (State.isArrayOf_alike hZ.alike Ar_a0_66.2.1) Ar_a0_66.2.2 hin66 hat66 (g := (mkF m 72 #[.val (.ref a0), .val (.int (Int32.ofNat o)), .val (.int (Int32.ofNat (o + n))), .val (.long (own_H D o k)), .second, .val (.int (Int32.ofNat (o + k)))] [(.int (Int32.ofNat (o + k))), (.ref a0), (.long ((31 : Int64) * (own_H D o k)))])) rfl rfl (hb hby d1_72) t kt)
      have pre68 : ∀ t, Steps p.tables e below (T62l.setTop (mkF m 79 #[.val (.ref a0), .val (.int (Int32.ofNat o)), .val (.int (Int32.ofNat (o + n))), .val (.long (((31 : Int64) * (own_H D o k)) + ((D (o + k)).toInt64))), .second, .val (.int ((Int32.ofNat (o + k)) + (1 : Int32)))] [])) t → Steps p.tables e below (s₁.setTop (entryFrame m #[(.ref a0), (.int (Int32.ofNat o)), (.int (Int32.ofNat (o + n)))] 6)) t := fun t kt => by
        refine pre67 _ ?_
        show Steps p.tables e below (T62l.setTop (mkF m 73 #[.val (.ref a0), .val (.int (Int32.ofNat o)), .val (.int (Int32.ofNat (o + n))), .val (.long (own_H D o k)), .second, .val (.int (Int32.ofNat (o + k)))] [(.int (D (o + k))), (.long ((31 : Int64) * (own_H D o k)))])) _
        refine XS.i2l X62l.here hx rfl (hb hby d1_73) rfl ?_
        show Steps p.tables e below (T62l.setTop (mkF m 74 #[.val (.ref a0), .val (.int (Int32.ofNat o)), .val (.int (Int32.ofNat (o + n))), .val (.long (own_H D o k)), .second, .val (.int (Int32.ofNat (o + k)))] [(.long ((D (o + k)).toInt64)), (.long ((31 : Int64) * (own_H D o k)))])) _
        refine XS.ladd X62l.here hx rfl (hb hby d1_74) rfl ?_
        show Steps p.tables e below (T62l.setTop (mkF m 75 #[.val (.ref a0), .val (.int (Int32.ofNat o)), .val (.int (Int32.ofNat (o + n))), .val (.long (own_H D o k)), .second, .val (.int (Int32.ofNat (o + k)))] [(.long (((31 : Int64) * (own_H D o k)) + ((D (o + k)).toInt64)))])) _
        refine XS.lstoreN X62l.here hx rfl (hb hby d1_75) rfl (l' := #[.val (.ref a0), .val (.int (Int32.ofNat o)), .val (.int (Int32.ofNat (o + n))), .val (.long (((31 : Int64) * (own_H D o k)) + ((D (o + k)).toInt64))), .second, .val (.int (Int32.ofNat (o + k)))]) rfl ?_
        show Steps p.tables e below (T62l.setTop (mkF m 76 #[.val (.ref a0), .val (.int (Int32.ofNat o)), .val (.int (Int32.ofNat (o + n))), .val (.long (((31 : Int64) * (own_H D o k)) + ((D (o + k)).toInt64))), .second, .val (.int (Int32.ofNat (o + k)))] [])) _
        refine XS.iinc X62l.here hx rfl (hb hby d1_76) rfl (l' := #[.val (.ref a0), .val (.int (Int32.ofNat o)), .val (.int (Int32.ofNat (o + n))), .val (.long (((31 : Int64) * (own_H D o k)) + ((D (o + k)).toInt64))), .second, .val (.int ((Int32.ofNat (o + k)) + (1 : Int32)))]) rfl ?_
        show Steps p.tables e below (T62l.setTop (mkF m 79 #[.val (.ref a0), .val (.int (Int32.ofNat o)), .val (.int (Int32.ofNat (o + n))), .val (.long (((31 : Int64) * (own_H D o k)) + ((D (o + k)).toInt64))), .second, .val (.int ((Int32.ofNat (o + k)) + (1 : Int32)))] [])) _
        exact kt
      have pre69 : ∀ t, Steps p.tables e below (T62l.setTop (mkF m 58 #[.val (.ref a0), .val (.int (Int32.ofNat o)), .val (.int (Int32.ofNat (o + n))), .val (.long (((31 : Int64) * (own_H D o k)) + ((D (o + k)).toInt64))), .second, .val (.int ((Int32.ofNat (o + k)) + (1 : Int32)))] [])) t → Steps p.tables e below (s₁.setTop (entryFrame m #[(.ref a0), (.int (Int32.ofNat o)), (.int (Int32.ofNat (o + n)))] 6)) t := fun t kt => by
        refine pre68 _ ?_
        show Steps p.tables e below (T62l.setTop (mkF m 79 #[.val (.ref a0), .val (.int (Int32.ofNat o)), .val (.int (Int32.ofNat (o + n))), .val (.long (((31 : Int64) * (own_H D o k)) + ((D (o + k)).toInt64))), .second, .val (.int ((Int32.ofNat (o + k)) + (1 : Int32)))] [])) _
        refine XS.goto X62l.here hx rfl (pc0 := 79) (pc' := 58) rfl (hb hby d1_79) (by decide) (by decide) ?_
        show Steps p.tables e below (T62l.setTop (mkF m 58 #[.val (.ref a0), .val (.int (Int32.ofNat o)), .val (.int (Int32.ofNat (o + n))), .val (.long (((31 : Int64) * (own_H D o k)) + ((D (o + k)).toInt64))), .second, .val (.int ((Int32.ofNat (o + k)) + (1 : Int32)))] [])) _
        exact kt
      have pre70 : ∀ t, Steps p.tables e below (T62l.setTop (mkF m 58 #[.val (.ref a0), .val (.int (Int32.ofNat o)), .val (.int (Int32.ofNat (o + n))), .val (.long (((31 : Int64) * (own_H D o k)) + ((D (o + k)).toInt64))), .second, .val (.int (Int32.ofNat (o + (k + 1))))] [])) t → Steps p.tables e below (s₁.setTop (entryFrame m #[(.ref a0), (.int (Int32.ofNat o)), (.int (Int32.ofNat (o + n)))] 6)) t := by
        have q := pre69
        rw [show Int32.ofNat (o + k) + (1 : Int32) = Int32.ofNat (o + (k + 1)) from Int32.ofNat_succ (o + k)] at q
        exact q
      have pre71 : ∀ t, Steps p.tables e below (T62l.setTop (mkF m 58 #[.val (.ref a0), .val (.int (Int32.ofNat o)), .val (.int (Int32.ofNat (o + n))), .val (.long (own_H D o (k + 1))), .second, .val (.int (Int32.ofNat (o + (k + 1))))] [])) t → Steps p.tables e below (s₁.setTop (entryFrame m #[(.ref a0), (.int (Int32.ofNat o)), (.int (Int32.ofNat (o + n)))] 6)) t := pre70
      exact ⟨_, _, X62l, N62l, K62l, I62_0l, pre71⟩
  obtain ⟨T62o, L62o, X62o, N62o, K62o, I62_0o, pre62o⟩ := loop62 n (Nat.le_refl _)
  have Zs62o : n0 ≤ T62o.heap.size := Nat.le_trans Z0 K62o.1
  have pre72 : ∀ t, Steps p.tables e below (T62o.setTop (mkF m 61 #[.val (.ref a0), .val (.int (Int32.ofNat o)), .val (.int (Int32.ofNat (o + n))), .val (.long (own_H D o n)), .second, .val (.int (Int32.ofNat (o + n)))] [(.int (Int32.ofNat (o + n))), (.int (Int32.ofNat (o + n)))])) t → Steps p.tables e below (s₁.setTop (entryFrame m #[(.ref a0), (.int (Int32.ofNat o)), (.int (Int32.ofNat (o + n)))] 6)) t := fun t kt => by
    refine pre62o _ ?_
    show Steps p.tables e below (T62o.setTop (mkF m 58 #[.val (.ref a0), .val (.int (Int32.ofNat o)), .val (.int (Int32.ofNat (o + n))), .val (.long (own_H D o n)), .second, .val (.int (Int32.ofNat (o + n)))] [])) _
    refine XS.iload X62o.here hx rfl (hb hby d1_58) rfl ?_
    show Steps p.tables e below (T62o.setTop (mkF m 60 #[.val (.ref a0), .val (.int (Int32.ofNat o)), .val (.int (Int32.ofNat (o + n))), .val (.long (own_H D o n)), .second, .val (.int (Int32.ofNat (o + n)))] [(.int (Int32.ofNat (o + n)))])) _
    refine XS.iloadN X62o.here hx rfl (hb hby d1_60) rfl ?_
    show Steps p.tables e below (T62o.setTop (mkF m 61 #[.val (.ref a0), .val (.int (Int32.ofNat o)), .val (.int (Int32.ofNat (o + n))), .val (.long (own_H D o n)), .second, .val (.int (Int32.ofNat (o + n)))] [(.int (Int32.ofNat (o + n))), (.int (Int32.ofNat (o + n)))])) _
    exact kt
  have pre73 : ∀ t, Steps p.tables e below (T62o.setTop (mkF m 82 #[.val (.ref a0), .val (.int (Int32.ofNat o)), .val (.int (Int32.ofNat (o + n))), .val (.long (own_H D o n)), .second, .val (.int (Int32.ofNat (o + n)))] [])) t → Steps p.tables e below (s₁.setTop (entryFrame m #[(.ref a0), (.int (Int32.ofNat o)), (.int (Int32.ofNat (o + n)))] 6)) t := fun t kt => by
    refine pre72 _ ?_
    show Steps p.tables e below (T62o.setTop (mkF m 61 #[.val (.ref a0), .val (.int (Int32.ofNat o)), .val (.int (Int32.ofNat (o + n))), .val (.long (own_H D o n)), .second, .val (.int (Int32.ofNat (o + n)))] [(.int (Int32.ofNat (o + n))), (.int (Int32.ofNat (o + n)))])) _
    refine XS.icmpYes X62o.here hx rfl (pc0 := 61) (pc' := 82) rfl (hb hby d1_61) rfl (flt (fun q => absurd ((own_ltn (by omega) (by omega)).mp q) (by omega))).2.1 (by decide) (by decide) ?_
    show Steps p.tables e below (T62o.setTop (mkF m 82 #[.val (.ref a0), .val (.int (Int32.ofNat o)), .val (.int (Int32.ofNat (o + n))), .val (.long (own_H D o n)), .second, .val (.int (Int32.ofNat (o + n)))] [])) _
    exact kt
  have pre74 : ∀ t, Steps p.tables e below (T62o.setTop (mkF m 93 #[.val (.ref a0), .val (.int (Int32.ofNat o)), .val (.int (Int32.ofNat (o + n))), .val (.long ((-72057594037927936 : Int64) ||| ((own_H D o n) &&& (72057594037927935 : Int64)))), .second, .val (.int (Int32.ofNat (o + n)))] [(.long ((-72057594037927936 : Int64) ||| ((own_H D o n) &&& (72057594037927935 : Int64))))])) t → Steps p.tables e below (s₁.setTop (entryFrame m #[(.ref a0), (.int (Int32.ofNat o)), (.int (Int32.ofNat (o + n)))] 6)) t := fun t kt => by
    refine pre73 _ ?_
    show Steps p.tables e below (T62o.setTop (mkF m 82 #[.val (.ref a0), .val (.int (Int32.ofNat o)), .val (.int (Int32.ofNat (o + n))), .val (.long (own_H D o n)), .second, .val (.int (Int32.ofNat (o + n)))] [])) _
    refine X62o.ldc2Long hx hown (mvT hZ (hw _ (List.mem_of_getElem? (i := 11) rfl))) (g := (mkF m 82 #[.val (.ref a0), .val (.int (Int32.ofNat o)), .val (.int (Int32.ofNat (o + n))), .val (.long (own_H D o n)), .second, .val (.int (Int32.ofNat (o + n)))] [])) rfl (hb hby d1_82) _ ?_
    show Steps p.tables e below (T62o.setTop (mkF m 85 #[.val (.ref a0), .val (.int (Int32.ofNat o)), .val (.int (Int32.ofNat (o + n))), .val (.long (own_H D o n)), .second, .val (.int (Int32.ofNat (o + n)))] [(.long (-72057594037927936 : Int64))])) _
    refine XS.lloadN X62o.here hx rfl (hb hby d1_85) rfl ?_
    show Steps p.tables e below (T62o.setTop (mkF m 86 #[.val (.ref a0), .val (.int (Int32.ofNat o)), .val (.int (Int32.ofNat (o + n))), .val (.long (own_H D o n)), .second, .val (.int (Int32.ofNat (o + n)))] [(.long (own_H D o n)), (.long (-72057594037927936 : Int64))])) _
    refine X62o.ldc2Long hx hown (mvT hZ (hw _ (List.mem_of_getElem? (i := 12) rfl))) (g := (mkF m 86 #[.val (.ref a0), .val (.int (Int32.ofNat o)), .val (.int (Int32.ofNat (o + n))), .val (.long (own_H D o n)), .second, .val (.int (Int32.ofNat (o + n)))] [(.long (own_H D o n)), (.long (-72057594037927936 : Int64))])) rfl (hb hby d1_86) _ ?_
    show Steps p.tables e below (T62o.setTop (mkF m 89 #[.val (.ref a0), .val (.int (Int32.ofNat o)), .val (.int (Int32.ofNat (o + n))), .val (.long (own_H D o n)), .second, .val (.int (Int32.ofNat (o + n)))] [(.long (72057594037927935 : Int64)), (.long (own_H D o n)), (.long (-72057594037927936 : Int64))])) _
    refine XS.land X62o.here hx rfl (hb hby d1_89) rfl ?_
    show Steps p.tables e below (T62o.setTop (mkF m 90 #[.val (.ref a0), .val (.int (Int32.ofNat o)), .val (.int (Int32.ofNat (o + n))), .val (.long (own_H D o n)), .second, .val (.int (Int32.ofNat (o + n)))] [(.long ((own_H D o n) &&& (72057594037927935 : Int64))), (.long (-72057594037927936 : Int64))])) _
    refine XS.lor X62o.here hx rfl (hb hby d1_90) rfl ?_
    show Steps p.tables e below (T62o.setTop (mkF m 91 #[.val (.ref a0), .val (.int (Int32.ofNat o)), .val (.int (Int32.ofNat (o + n))), .val (.long (own_H D o n)), .second, .val (.int (Int32.ofNat (o + n)))] [(.long ((-72057594037927936 : Int64) ||| ((own_H D o n) &&& (72057594037927935 : Int64))))])) _
    refine XS.lstoreN X62o.here hx rfl (hb hby d1_91) rfl (l' := #[.val (.ref a0), .val (.int (Int32.ofNat o)), .val (.int (Int32.ofNat (o + n))), .val (.long ((-72057594037927936 : Int64) ||| ((own_H D o n) &&& (72057594037927935 : Int64)))), .second, .val (.int (Int32.ofNat (o + n)))]) rfl ?_
    show Steps p.tables e below (T62o.setTop (mkF m 92 #[.val (.ref a0), .val (.int (Int32.ofNat o)), .val (.int (Int32.ofNat (o + n))), .val (.long ((-72057594037927936 : Int64) ||| ((own_H D o n) &&& (72057594037927935 : Int64)))), .second, .val (.int (Int32.ofNat (o + n)))] [])) _
    refine XS.lloadN X62o.here hx rfl (hb hby d1_92) rfl ?_
    show Steps p.tables e below (T62o.setTop (mkF m 93 #[.val (.ref a0), .val (.int (Int32.ofNat o)), .val (.int (Int32.ofNat (o + n))), .val (.long ((-72057594037927936 : Int64) ||| ((own_H D o n) &&& (72057594037927935 : Int64)))), .second, .val (.int (Int32.ofNat (o + n)))] [(.long ((-72057594037927936 : Int64) ||| ((own_H D o n) &&& (72057594037927935 : Int64))))])) _
    exact kt
  obtain ⟨fs, hr, hrun, hended, hW, hsame⟩ := X62o.leave (v := some (.long ((-72057594037927936 : Int64) ||| ((own_H D o n) &&& (72057594037927935 : Int64))))) (fun h => by rw [Bd.returns] at h; cases h)
  refine ⟨_, _, pre74 _ ?_, hrun, hended, _, _, rfl, ?_, ⟨_, rfl⟩, hW, hsame.mono (by decide) (by decide)⟩
  · show Steps p.tables e below (T62o.setTop (mkF m 93 #[.val (.ref a0), .val (.int (Int32.ofNat o)), .val (.int (Int32.ofNat (o + n))), .val (.long ((-72057594037927936 : Int64) ||| ((own_H D o n) &&& (72057594037927935 : Int64)))), .second, .val (.int (Int32.ofNat (o + n)))] [(.long ((-72057594037927936 : Int64) ||| ((own_H D o n) &&& (72057594037927935 : Int64))))])) _
    exact Jvm.Stand.lreturnOut X62o hx Bd.returns (hb hby d1_93) hr
  · show Q1_l o n D h0 n0 _ T62o.heap _
    exact ⟨rfl, N62o, K62o⟩
theorem own_off (c : Int32) (q : Int) (h1 : 1 ≤ q) (h5 : q ≤ 17) (d : Int32) (hd : d.toInt = q) : ∃ n : Nat, (n : Int) < q ∧ ((c &&& (2147483647 : Int32)) - ((c &&& (2147483647 : Int32)) / d) * d) = Int32.ofNat n := by
  have e : (c &&& (2147483647 : Int32)).toInt = c.toInt % 2 ^ 31 := Jvm.Kit.i32_mask c 2147483647 (k := 31) (by decide) (by decide)
  generalize (c &&& (2147483647 : Int32)) = s at e ⊢
  have h0 : 0 ≤ s.toInt := by omega
  have b := s.toInt_lt
  have dv : (s / d).toInt = s.toInt / q := by rw [Jvm.Kit.i32_div (by omega), hd, Int.tdiv_eq_ediv_of_nonneg h0]
  have m1 : s.toInt / q * q ≤ s.toInt := Int.ediv_mul_le _ (by omega)
  have m2 : 0 ≤ s.toInt / q := Int.ediv_nonneg h0 (by omega)
  have m3 : 0 ≤ s.toInt / q * q := Int.mul_nonneg m2 (by omega)
  have mm : ((s / d) * d).toInt = s.toInt / q * q := by rw [Jvm.Kit.i32_mul (by rw [dv, hd]; omega) (by rw [dv, hd]; omega), dv, hd]
  have r1 := Int.emod_nonneg s.toInt (b := q) (by omega)
  have r2 := Int.emod_lt_of_pos s.toInt (b := q) (by omega)
  have r3 : s.toInt - s.toInt / q * q = s.toInt % q := by have := Int.emod_add_mul_ediv s.toInt q; rw [Int.mul_comm] at this; omega
  refine ⟨(s.toInt % q).toNat, by omega, Int32.toInt_inj.mp ?_⟩
  rw [Jvm.Kit.i32_sub (by omega) (by omega), mm, r3, Int32.toInt_ofNat_of_lt (by omega)]
  omega
theorem own_step (D : Nat → Int32) (o n i : Nat) (hn : n < 500) (hi : i < 500) : f3 (own_H D o (min i n)) o n i D = own_H D o (min (i + 1) n) := by
  unfold f3
  by_cases q : i < n
  · rw [if_pos ((own_ltn hi hn).mpr q), show min i n = i by omega, show min (i + 1) n = i + 1 by omega]; rfl
  · rw [if_neg (fun r => q ((own_ltn hi hn).mp r)), show min i n = n by omega, show min (i + 1) n = n by omega]
theorem own_long (D : Nat → Int32) (o n : Nat) (hn : n ≤ 16) : ((-72057594037927936 : Int64) ||| ((own_H D o n) &&& (72057594037927935 : Int64))) = (((own_H D o (min 16 n)) &&& (72057594037927935 : Int64)) ||| (-72057594037927936 : Int64)) := by
  rw [show min 16 n = n by omega, Int64.or_comm]
def own_B (D : Nat → Int32) (j : Nat) : Int := (D j).toInt % 256
theorem own_B_int (D : Nat → Int32) (j : Nat) : (((D j) &&& (255 : Int32)).toInt64).toInt = own_B D j ∧ 0 ≤ own_B D j ∧ own_B D j < 256 := by
  have e : ((D j) &&& (255 : Int32)).toInt = (D j).toInt % 2 ^ 8 := Jvm.Kit.i32_mask _ 255 (k := 8) (by decide) (by decide)
  unfold own_B
  exact ⟨by rw [Int32.toInt_toInt64, e]; omega, by omega, by omega⟩
theorem own_tn (x : Int64) (h : 0 ≤ x.toInt) : x.toInt = (x.toBitVec.toNat : Int) := by
  have e : x.toInt = x.toBitVec.toInt := rfl
  have l := x.toBitVec.isLt
  rw [e] at h ⊢
  rw [BitVec.toInt_eq_toNat_cond] at h ⊢
  split at h <;> omega
theorem own_or8 (x y s : Int64) (hs : (s.toBitVec.smod 64).toNat = 8) (h1 : 0 ≤ x.toInt) (h2 : x.toInt * 2 ^ 8 + y.toInt < 2 ^ 63) (h3 : 0 ≤ y.toInt) (h4 : y.toInt < 2 ^ 8) : ((x <<< s) ||| y).toInt = x.toInt * 2 ^ 8 + y.toInt := by
  have hl : (x <<< s).toInt = x.toInt * 2 ^ 8 := Jvm.Kit.i64_shl x s (k := 8) hs (by omega) (by omega)
  have ha : ((x <<< s) ||| y) = (x <<< s) + y := by
    apply Int64.toBitVec_inj.mp
    rw [Int64.toBitVec_or, Int64.toBitVec_add]
    symm
    apply BitVec.add_eq_or_of_and_eq_zero
    have hxx : (x <<< s).toBitVec = x.toBitVec <<< 8 := by
      show x.toBitVec <<< (s.toBitVec.smod 64) = _
      rw [BitVec.shiftLeft_eq', hs]
    rw [hxx]
    apply BitVec.eq_of_getLsbD_eq
    intro i hi
    rw [BitVec.getLsbD_and, BitVec.getLsbD_shiftLeft]
    by_cases q : i < 8
    · simp [q]
    · have hyn : y.toBitVec.toNat < 2 ^ 8 := by have := own_tn y h3; omega
      have : y.toBitVec.getLsbD i = false := Nat.testBit_lt_two_pow (Nat.lt_of_lt_of_le hyn (Nat.pow_le_pow_right (by omega) (by omega)))
      simp [this]
  rw [ha, Jvm.Kit.i64_add (by omega) (by omega), hl]
theorem own_or56 (x y s : Int64) (hs : (s.toBitVec.smod 64).toNat = 56) (h1 : 0 ≤ x.toInt) (h2 : x.toInt * 2 ^ 56 + y.toInt < 2 ^ 63) (h3 : 0 ≤ y.toInt) (h4 : y.toInt < 2 ^ 56) : ((x <<< s) ||| y).toInt = x.toInt * 2 ^ 56 + y.toInt := by
  have hl : (x <<< s).toInt = x.toInt * 2 ^ 56 := Jvm.Kit.i64_shl x s (k := 56) hs (by omega) (by omega)
  have ha : ((x <<< s) ||| y) = (x <<< s) + y := by
    apply Int64.toBitVec_inj.mp
    rw [Int64.toBitVec_or, Int64.toBitVec_add]
    symm
    apply BitVec.add_eq_or_of_and_eq_zero
    have hxx : (x <<< s).toBitVec = x.toBitVec <<< 56 := by
      show x.toBitVec <<< (s.toBitVec.smod 64) = _
      rw [BitVec.shiftLeft_eq', hs]
    rw [hxx]
    apply BitVec.eq_of_getLsbD_eq
    intro i hi
    rw [BitVec.getLsbD_and, BitVec.getLsbD_shiftLeft]
    by_cases q : i < 56
    · simp [q]
    · have hyn : y.toBitVec.toNat < 2 ^ 56 := by have := own_tn y h3; omega
      have : y.toBitVec.getLsbD i = false := Nat.testBit_lt_two_pow (Nat.lt_of_lt_of_le hyn (Nat.pow_le_pow_right (by omega) (by omega)))
      simp [this]
  rw [ha, Jvm.Kit.i64_add (by omega) (by omega), hl]
theorem own_S_next (D : Nat → Int32) (a k : Nat) {j : Nat} (hj : a - 1 - k = j) (h1 : 0 ≤ (own_S D a k).toInt) (h2 : (own_S D a k).toInt < 2 ^ 50) : (own_S D a (k + 1)).toInt = (own_S D a k).toInt * 2 ^ 8 + own_B D j := by
  subst hj
  obtain ⟨b1, b2, b3⟩ := own_B_int D (a - 1 - k)
  show (((own_S D a k) <<< ((8 : Int32) &&& 0x3f).toInt64) ||| (((D (a - 1 - k)) &&& (255 : Int32)).toInt64)).toInt = _
  rw [own_or8 _ _ _ (by decide) h1 (by omega) (by omega) (by omega), b1]
theorem own_part (D : Nat → Int32) (o n i : Nat) (hn : n < 500) (hi : i ≤ 6) : (f2 o n i D).toInt = if i < n then own_B D (o + i) * 2 ^ (8 * i) else 0 := by
  obtain ⟨b1, b2, b3⟩ := own_B_int D (o + i)
  unfold f2
  by_cases q : i < n
  · rw [if_pos ((own_ltn (by omega) hn).mpr q), if_pos q]
    have : i = 0 ∨ i = 1 ∨ i = 2 ∨ i = 3 ∨ i = 4 ∨ i = 5 ∨ i = 6 := by omega
    rcases this with rfl | rfl | rfl | rfl | rfl | rfl | rfl
    · rw [Jvm.Kit.i64_shl _ _ (k := 0) (by decide) (by rw [b1]; omega) (by rw [b1]; omega), b1]
    · rw [Jvm.Kit.i64_shl _ _ (k := 8) (by decide) (by rw [b1]; omega) (by rw [b1]; omega), b1]
    · rw [Jvm.Kit.i64_shl _ _ (k := 16) (by decide) (by rw [b1]; omega) (by rw [b1]; omega), b1]
    · rw [Jvm.Kit.i64_shl _ _ (k := 24) (by decide) (by rw [b1]; omega) (by rw [b1]; omega), b1]
    · rw [Jvm.Kit.i64_shl _ _ (k := 32) (by decide) (by rw [b1]; omega) (by rw [b1]; omega), b1]
    · rw [Jvm.Kit.i64_shl _ _ (k := 40) (by decide) (by rw [b1]; omega) (by rw [b1]; omega), b1]
    · rw [Jvm.Kit.i64_shl _ _ (k := 48) (by decide) (by rw [b1]; omega) (by rw [b1]; omega), b1]
  · rw [if_neg (fun r => q ((own_ltn (by omega) hn).mp r)), if_neg q]; rfl
theorem own_short (D : Nat → Int32) (o n : Nat) (hn : n ≤ 7) : ((own_S D (o + n) n) ||| ((Int32.ofNat n).toInt64 <<< ((56 : Int32) &&& 0x3f).toInt64)) = ((((((((((Int32.ofNat n).toInt64) <<< ((56 : Int32) &&& 0x3f).toInt64) + (f2 o n 0 D)) + (f2 o n 1 D)) + (f2 o n 2 D)) + (f2 o n 3 D)) + (f2 o n 4 D)) + (f2 o n 5 D)) + (f2 o n 6 D)) := by
  have p0 := own_part D o n 0 (by omega) (by omega)
  have p1 := own_part D o n 1 (by omega) (by omega)
  have p2 := own_part D o n 2 (by omega) (by omega)
  have p3 := own_part D o n 3 (by omega) (by omega)
  have p4 := own_part D o n 4 (by omega) (by omega)
  have p5 := own_part D o n 5 (by omega) (by omega)
  have p6 := own_part D o n 6 (by omega) (by omega)
  have c0 := (own_B_int D (o + 0)).2
  have c1 := (own_B_int D (o + 1)).2
  have c2 := (own_B_int D (o + 2)).2
  have c3 := (own_B_int D (o + 3)).2
  have c4 := (own_B_int D (o + 4)).2
  have c5 := (own_B_int D (o + 5)).2
  have c6 := (own_B_int D (o + 6)).2
  have en : (Int32.ofNat n).toInt64.toInt = n := by rw [Int32.toInt_toInt64, own_nat (by omega)]
  have esh : ((Int32.ofNat n).toInt64 <<< ((56 : Int32) &&& 0x3f).toInt64).toInt = (n : Int) * 2 ^ 56 := by rw [Jvm.Kit.i64_shl _ _ (k := 56) (by decide) (by omega) (by omega), en]
  have hS : ∃ v : Int, (own_S D (o + n) n).toInt = v ∧ 0 ≤ v ∧ v < 2 ^ 56 ∧ v = (if 0 < n then own_B D (o + 0) * 2 ^ (8 * 0) else 0) + (if 1 < n then own_B D (o + 1) * 2 ^ (8 * 1) else 0) + (if 2 < n then own_B D (o + 2) * 2 ^ (8 * 2) else 0) + (if 3 < n then own_B D (o + 3) * 2 ^ (8 * 3) else 0) + (if 4 < n then own_B D (o + 4) * 2 ^ (8 * 4) else 0) + (if 5 < n then own_B D (o + 5) * 2 ^ (8 * 5) else 0) + (if 6 < n then own_B D (o + 6) * 2 ^ (8 * 6) else 0) := by
    refine ⟨_, rfl, ?_⟩
    have : n = 0 ∨ n = 1 ∨ n = 2 ∨ n = 3 ∨ n = 4 ∨ n = 5 ∨ n = 6 ∨ n = 7 := by omega
    rcases this with rfl | rfl | rfl | rfl | rfl | rfl | rfl | rfl
    · have s0 : (own_S D (o + 0) 0).toInt = 0 := rfl
      simp only [Nat.reduceLT, reduceIte]
      omega
    · have s0 : (own_S D (o + 1) 0).toInt = 0 := rfl
      have s1 : (own_S D (o + 1) 1).toInt = (own_S D (o + 1) 0).toInt * 2 ^ 8 + own_B D (o + 0) := own_S_next D (o + 1) 0 (j := o + 0) (by omega) (by omega) (by omega)
      simp only [Nat.reduceLT, reduceIte]
      omega
    · have s0 : (own_S D (o + 2) 0).toInt = 0 := rfl
      have s1 : (own_S D (o + 2) 1).toInt = (own_S D (o + 2) 0).toInt * 2 ^ 8 + own_B D (o + 1) := own_S_next D (o + 2) 0 (j := o + 1) (by omega) (by omega) (by omega)
      have s2 : (own_S D (o + 2) 2).toInt = (own_S D (o + 2) 1).toInt * 2 ^ 8 + own_B D (o + 0) := own_S_next D (o + 2) 1 (j := o + 0) (by omega) (by omega) (by omega)
      simp only [Nat.reduceLT, reduceIte]
      omega
    · have s0 : (own_S D (o + 3) 0).toInt = 0 := rfl
      have s1 : (own_S D (o + 3) 1).toInt = (own_S D (o + 3) 0).toInt * 2 ^ 8 + own_B D (o + 2) := own_S_next D (o + 3) 0 (j := o + 2) (by omega) (by omega) (by omega)
      have s2 : (own_S D (o + 3) 2).toInt = (own_S D (o + 3) 1).toInt * 2 ^ 8 + own_B D (o + 1) := own_S_next D (o + 3) 1 (j := o + 1) (by omega) (by omega) (by omega)
      have s3 : (own_S D (o + 3) 3).toInt = (own_S D (o + 3) 2).toInt * 2 ^ 8 + own_B D (o + 0) := own_S_next D (o + 3) 2 (j := o + 0) (by omega) (by omega) (by omega)
      simp only [Nat.reduceLT, reduceIte]
      omega
    · have s0 : (own_S D (o + 4) 0).toInt = 0 := rfl
      have s1 : (own_S D (o + 4) 1).toInt = (own_S D (o + 4) 0).toInt * 2 ^ 8 + own_B D (o + 3) := own_S_next D (o + 4) 0 (j := o + 3) (by omega) (by omega) (by omega)
      have s2 : (own_S D (o + 4) 2).toInt = (own_S D (o + 4) 1).toInt * 2 ^ 8 + own_B D (o + 2) := own_S_next D (o + 4) 1 (j := o + 2) (by omega) (by omega) (by omega)
      have s3 : (own_S D (o + 4) 3).toInt = (own_S D (o + 4) 2).toInt * 2 ^ 8 + own_B D (o + 1) := own_S_next D (o + 4) 2 (j := o + 1) (by omega) (by omega) (by omega)
      have s4 : (own_S D (o + 4) 4).toInt = (own_S D (o + 4) 3).toInt * 2 ^ 8 + own_B D (o + 0) := own_S_next D (o + 4) 3 (j := o + 0) (by omega) (by omega) (by omega)
      simp only [Nat.reduceLT, reduceIte]
      omega
    · have s0 : (own_S D (o + 5) 0).toInt = 0 := rfl
      have s1 : (own_S D (o + 5) 1).toInt = (own_S D (o + 5) 0).toInt * 2 ^ 8 + own_B D (o + 4) := own_S_next D (o + 5) 0 (j := o + 4) (by omega) (by omega) (by omega)
      have s2 : (own_S D (o + 5) 2).toInt = (own_S D (o + 5) 1).toInt * 2 ^ 8 + own_B D (o + 3) := own_S_next D (o + 5) 1 (j := o + 3) (by omega) (by omega) (by omega)
      have s3 : (own_S D (o + 5) 3).toInt = (own_S D (o + 5) 2).toInt * 2 ^ 8 + own_B D (o + 2) := own_S_next D (o + 5) 2 (j := o + 2) (by omega) (by omega) (by omega)
      have s4 : (own_S D (o + 5) 4).toInt = (own_S D (o + 5) 3).toInt * 2 ^ 8 + own_B D (o + 1) := own_S_next D (o + 5) 3 (j := o + 1) (by omega) (by omega) (by omega)
      have s5 : (own_S D (o + 5) 5).toInt = (own_S D (o + 5) 4).toInt * 2 ^ 8 + own_B D (o + 0) := own_S_next D (o + 5) 4 (j := o + 0) (by omega) (by omega) (by omega)
      simp only [Nat.reduceLT, reduceIte]
      omega
    · have s0 : (own_S D (o + 6) 0).toInt = 0 := rfl
      have s1 : (own_S D (o + 6) 1).toInt = (own_S D (o + 6) 0).toInt * 2 ^ 8 + own_B D (o + 5) := own_S_next D (o + 6) 0 (j := o + 5) (by omega) (by omega) (by omega)
      have s2 : (own_S D (o + 6) 2).toInt = (own_S D (o + 6) 1).toInt * 2 ^ 8 + own_B D (o + 4) := own_S_next D (o + 6) 1 (j := o + 4) (by omega) (by omega) (by omega)
      have s3 : (own_S D (o + 6) 3).toInt = (own_S D (o + 6) 2).toInt * 2 ^ 8 + own_B D (o + 3) := own_S_next D (o + 6) 2 (j := o + 3) (by omega) (by omega) (by omega)
      have s4 : (own_S D (o + 6) 4).toInt = (own_S D (o + 6) 3).toInt * 2 ^ 8 + own_B D (o + 2) := own_S_next D (o + 6) 3 (j := o + 2) (by omega) (by omega) (by omega)
      have s5 : (own_S D (o + 6) 5).toInt = (own_S D (o + 6) 4).toInt * 2 ^ 8 + own_B D (o + 1) := own_S_next D (o + 6) 4 (j := o + 1) (by omega) (by omega) (by omega)
      have s6 : (own_S D (o + 6) 6).toInt = (own_S D (o + 6) 5).toInt * 2 ^ 8 + own_B D (o + 0) := own_S_next D (o + 6) 5 (j := o + 0) (by omega) (by omega) (by omega)
      simp only [Nat.reduceLT, reduceIte]
      omega
    · have s0 : (own_S D (o + 7) 0).toInt = 0 := rfl
      have s1 : (own_S D (o + 7) 1).toInt = (own_S D (o + 7) 0).toInt * 2 ^ 8 + own_B D (o + 6) := own_S_next D (o + 7) 0 (j := o + 6) (by omega) (by omega) (by omega)
      have s2 : (own_S D (o + 7) 2).toInt = (own_S D (o + 7) 1).toInt * 2 ^ 8 + own_B D (o + 5) := own_S_next D (o + 7) 1 (j := o + 5) (by omega) (by omega) (by omega)
      have s3 : (own_S D (o + 7) 3).toInt = (own_S D (o + 7) 2).toInt * 2 ^ 8 + own_B D (o + 4) := own_S_next D (o + 7) 2 (j := o + 4) (by omega) (by omega) (by omega)
      have s4 : (own_S D (o + 7) 4).toInt = (own_S D (o + 7) 3).toInt * 2 ^ 8 + own_B D (o + 3) := own_S_next D (o + 7) 3 (j := o + 3) (by omega) (by omega) (by omega)
      have s5 : (own_S D (o + 7) 5).toInt = (own_S D (o + 7) 4).toInt * 2 ^ 8 + own_B D (o + 2) := own_S_next D (o + 7) 4 (j := o + 2) (by omega) (by omega) (by omega)
      have s6 : (own_S D (o + 7) 6).toInt = (own_S D (o + 7) 5).toInt * 2 ^ 8 + own_B D (o + 1) := own_S_next D (o + 7) 5 (j := o + 1) (by omega) (by omega) (by omega)
      have s7 : (own_S D (o + 7) 7).toInt = (own_S D (o + 7) 6).toInt * 2 ^ 8 + own_B D (o + 0) := own_S_next D (o + 7) 6 (j := o + 0) (by omega) (by omega) (by omega)
      simp only [Nat.reduceLT, reduceIte]
      omega
  obtain ⟨v, hv, v0, v1, ve⟩ := hS
  have lhs : ((own_S D (o + n) n) ||| ((Int32.ofNat n).toInt64 <<< ((56 : Int32) &&& 0x3f).toInt64)).toInt = (n : Int) * 2 ^ 56 + v := by
    rw [Int64.or_comm, own_or56 _ _ _ (by decide) (by omega) (by omega) (by omega) (by omega), en, hv]
  apply Int64.toInt_inj.mp
  rw [lhs, ve]
  rw [← p0, ← p1, ← p2, ← p3, ← p4, ← p5, ← p6] at ve
  rw [← p0, ← p1, ← p2, ← p3, ← p4, ← p5, ← p6]
  have r0 : 0 ≤ (f2 o n 0 D).toInt := by rw [p0]; split <;> omega
  have r1 : 0 ≤ (f2 o n 1 D).toInt := by rw [p1]; split <;> omega
  have r2 : 0 ≤ (f2 o n 2 D).toInt := by rw [p2]; split <;> omega
  have r3 : 0 ≤ (f2 o n 3 D).toInt := by rw [p3]; split <;> omega
  have r4 : 0 ≤ (f2 o n 4 D).toInt := by rw [p4]; split <;> omega
  have r5 : 0 ≤ (f2 o n 5 D).toInt := by rw [p5]; split <;> omega
  have r6 : 0 ≤ (f2 o n 6 D).toInt := by rw [p6]; split <;> omega
  clear p0 p1 p2 p3 p4 p5 p6 c0 c1 c2 c3 c4 c5 c6
  generalize ((Int32.ofNat n).toInt64 <<< ((56 : Int32) &&& 0x3f).toInt64) = H at *
  generalize f2 o n 0 D = g0 at *
  generalize f2 o n 1 D = g1 at *
  generalize f2 o n 2 D = g2 at *
  generalize f2 o n 3 D = g3 at *
  generalize f2 o n 4 D = g4 at *
  generalize f2 o n 5 D = g5 at *
  generalize f2 o n 6 D = g6 at *
  have a0 : (H + g0).toInt = H.toInt + g0.toInt := Jvm.Kit.i64_add (by omega) (by omega)
  have a1 : (H + g0 + g1).toInt = H.toInt + g0.toInt + g1.toInt := by rw [Jvm.Kit.i64_add (by omega) (by omega), a0]
  have a2 : (H + g0 + g1 + g2).toInt = H.toInt + g0.toInt + g1.toInt + g2.toInt := by rw [Jvm.Kit.i64_add (by omega) (by omega), a1]
  have a3 : (H + g0 + g1 + g2 + g3).toInt = H.toInt + g0.toInt + g1.toInt + g2.toInt + g3.toInt := by rw [Jvm.Kit.i64_add (by omega) (by omega), a2]
  have a4 : (H + g0 + g1 + g2 + g3 + g4).toInt = H.toInt + g0.toInt + g1.toInt + g2.toInt + g3.toInt + g4.toInt := by rw [Jvm.Kit.i64_add (by omega) (by omega), a3]
  have a5 : (H + g0 + g1 + g2 + g3 + g4 + g5).toInt = H.toInt + g0.toInt + g1.toInt + g2.toInt + g3.toInt + g4.toInt + g5.toInt := by rw [Jvm.Kit.i64_add (by omega) (by omega), a4]
  have a6 : (H + g0 + g1 + g2 + g3 + g4 + g5 + g6).toInt = H.toInt + g0.toInt + g1.toInt + g2.toInt + g3.toInt + g4.toInt + g5.toInt + g6.toInt := by rw [Jvm.Kit.i64_add (by omega) (by omega), a5]
  rw [a6]
  omega

theorem ef_0 (m : MethodId) (x0 : Int64) (x1 : Int64) (x2 : Int32) (x3 : Int32) : entryFrame m #[(.long x0), (.long x1), (.int x2), (.int x3)] maxLocals = mkF m 0 #[.val (.long x0), .second, .val (.long x1), .second, .val (.int x2), .val (.int x3), .unset, .unset, .unset, .unset, .unset, .unset, .unset, .unset, .unset, .unset] [] := by first | (simp [entryFrame, mkF, argsToLocals, Value.category, maxLocals]; done) | rfl
def Q0 (av : Int64) (cv : Int64) (fv : Int32) (lv : Int32) (h0 : Heap) (n0 : Nat) (v : Option Value) (h : Heap) (L : List Loc) : Prop := v = some (.int (1 : Int32)) ∧ Fr n0 L
set_option maxRecDepth 65536 in
set_option maxHeartbeats 40000000 in
theorem rm0 (l : Launch) (Z : State) (aZ : Array Value) (hw : ∀ d ∈ tables_1, d.before aZ Z = true) (ws : List Jvm.Cond) (av : Int64) (cv : Int64) (fv : Int32) (lv : Int32)  (h0 : Heap) (n0 : Nat) (Z0 : n0 ≤ h0.size)  :
    MetFree l x (head1 (Jvm.Cond.code x code maxLocals ret :: ws) room_1) (fun a U => a = #[(.long av), (.long cv), (.int fv), (.int lv)] ∧ Z.Warmed39 U.vm ∧ U.heap = h0) (fun _ _ _ _ _ => True) (fun _ U oc U' => ∃ v L, oc = .returned v ∧ Q0 av cv fv lv h0 n0 v U'.heap L ∧ FrameEnd U oc U' L room_1.cells room_1.slots) := by
  refine MetFree.of_bodySF (plainFor_of_name pn_2) hisR ?_
  intro p e s m args below meth c s₁ Bd hml0 hP hK
  obtain ⟨rfl, hZ, hh⟩ := hP
  have hx := Bd.exec
  have hby := Bd.bytes
  have hml : c.maxLocals = 16 := hml0
  have hown : s.vm.findClass "com/example/attestry/attestry/ParticipantNamesKeyPinLaw" = some m.cls := findClass_of_methodNamed Bd.named
  have hnm := (name_of_methodNamed Bd.named Bd.method).1
  have X0 : Stand p l e room_1 s m #[(.long av), (.long cv), (.int fv), (.int lv)] below meth c s₁ [] 0 0 := Stand.of_body Bd
  have e0 : s₁.heap = h0 := by rw [← hh, Bd.state]; rfl
  have N0 := Fr.nil n0
  have pre0 : ∀ t, Steps p.tables e below (s₁.setTop (mkF m 0 #[.val (.long av), .second, .val (.long cv), .second, .val (.int fv), .val (.int lv), .unset, .unset, .unset, .unset, .unset, .unset, .unset, .unset, .unset, .unset] [])) t → Steps p.tables e below (s₁.setTop (entryFrame m #[(.long av), (.long cv), (.int fv), (.int lv)] maxLocals)) t := fun t kt => castTop (ef_0 m av cv fv lv) kt
  have pre75 : ∀ t, Steps p.tables e below (s₁.setTop (mkF m 2 #[.val (.long av), .second, .val (.long cv), .second, .val (.int fv), .val (.int lv), .unset, .unset, .unset, .unset, .unset, .unset, .unset, .unset, .unset, .unset] [(.int (16 : Int32))])) t → Steps p.tables e below (s₁.setTop (entryFrame m #[(.long av), (.long cv), (.int fv), (.int lv)] maxLocals)) t := fun t kt => by
    refine pre0 _ ?_
    show Steps p.tables e below (s₁.setTop (mkF m 0 #[.val (.long av), .second, .val (.long cv), .second, .val (.int fv), .val (.int lv), .unset, .unset, .unset, .unset, .unset, .unset, .unset, .unset, .unset, .unset] [])) _
    refine XS.bipush X0.here hx rfl (hb hby at_0) ?_
    show Steps p.tables e below (s₁.setTop (mkF m 2 #[.val (.long av), .second, .val (.long cv), .second, .val (.int fv), .val (.int lv), .unset, .unset, .unset, .unset, .unset, .unset, .unset, .unset, .unset, .unset] [(.int (16 : Int32))])) _
    exact kt
  obtain ⟨T76, h76, k76, X76, e76, E76, A76, st76⟩ := newP X0 hx hZ (hw _ (List.mem_of_getElem? (i := 0) rfl)) e0 (g := (mkF m 2 #[.val (.long av), .second, .val (.long cv), .second, .val (.int fv), .val (.int lv), .unset, .unset, .unset, .unset, .unset, .unset, .unset, .unset, .unset, .unset] [(.int (16 : Int32))])) rfl (hb hby at_2) rfl (by decide) (cap := 16) (by decide) (by decide) (by decide) (by decide)
  obtain ⟨b76, g76⟩ : ∃ z, z = h0.size := ⟨_, rfl⟩
  have g_b76 : n0 ≤ b76 := Nat.le_trans Z0 (Nat.le_of_eq g76.symm)
  have sz_b76 : h0.size ≤ b76 := Nat.le_of_eq g76.symm
  rw [← g76] at A76 st76
  have Zs76 : n0 ≤ h76.size := Nat.le_trans Z0 E76.1
  have K0 := Keep.refl h0 []
  have K76 := K0.ext E76
  have V_b76 : Arv Z h76 b76 k76 .byte (16 : Int32) [(.int (0 : Int32)), (.int (0 : Int32)), (.int (0 : Int32)), (.int (0 : Int32)), (.int (0 : Int32)), (.int (0 : Int32)), (.int (0 : Int32)), (.int (0 : Int32)), (.int (0 : Int32)), (.int (0 : Int32)), (.int (0 : Int32)), (.int (0 : Int32)), (.int (0 : Int32)), (.int (0 : Int32)), (.int (0 : Int32)), (.int (0 : Int32))] (.int (0 : Int32)) := (Arv.new A76 (by decide)).pad (pad_rep [] (.int (0 : Int32)) 16)
  have pre76 : ∀ t, Steps p.tables e below (T76.setTop (mkF m 4 #[.val (.long av), .second, .val (.long cv), .second, .val (.int fv), .val (.int lv), .unset, .unset, .unset, .unset, .unset, .unset, .unset, .unset, .unset, .unset] [(.ref b76)])) t → Steps p.tables e below (s₁.setTop (entryFrame m #[(.long av), (.long cv), (.int fv), (.int lv)] maxLocals)) t := fun t kt => pre75 _ (st76 t kt)
  have pre77 : ∀ t, Steps p.tables e below (T76.setTop (mkF m 9 #[.val (.long av), .second, .val (.long cv), .second, .val (.int fv), .val (.int lv), .unset, .unset, .unset, .unset, .unset, .unset, .unset, .unset, .unset, .unset] [(.int ((av.toInt32).toInt8.toInt32)), (.int (0 : Int32)), (.ref b76), (.ref b76)])) t → Steps p.tables e below (s₁.setTop (entryFrame m #[(.long av), (.long cv), (.int fv), (.int lv)] maxLocals)) t := fun t kt => by
    refine pre76 _ ?_
    show Steps p.tables e below (T76.setTop (mkF m 4 #[.val (.long av), .second, .val (.long cv), .second, .val (.int fv), .val (.int lv), .unset, .unset, .unset, .unset, .unset, .unset, .unset, .unset, .unset, .unset] [(.ref b76)])) _
    refine XS.dup X76.here hx rfl (hb hby at_4) rfl rfl ?_
    show Steps p.tables e below (T76.setTop (mkF m 5 #[.val (.long av), .second, .val (.long cv), .second, .val (.int fv), .val (.int lv), .unset, .unset, .unset, .unset, .unset, .unset, .unset, .unset, .unset, .unset] [(.ref b76), (.ref b76)])) _
    refine XS.iconst X76.here hx rfl (hb hby at_5) ?_
    show Steps p.tables e below (T76.setTop (mkF m 6 #[.val (.long av), .second, .val (.long cv), .second, .val (.int fv), .val (.int lv), .unset, .unset, .unset, .unset, .unset, .unset, .unset, .unset, .unset, .unset] [(.int (0 : Int32)), (.ref b76), (.ref b76)])) _
    refine XS.lloadN X76.here hx rfl (hb hby at_6) rfl ?_
    show Steps p.tables e below (T76.setTop (mkF m 7 #[.val (.long av), .second, .val (.long cv), .second, .val (.int fv), .val (.int lv), .unset, .unset, .unset, .unset, .unset, .unset, .unset, .unset, .unset, .unset] [(.long av), (.int (0 : Int32)), (.ref b76), (.ref b76)])) _
    refine XS.l2i X76.here hx rfl (hb hby at_7) rfl ?_
    show Steps p.tables e below (T76.setTop (mkF m 8 #[.val (.long av), .second, .val (.long cv), .second, .val (.int fv), .val (.int lv), .unset, .unset, .unset, .unset, .unset, .unset, .unset, .unset, .unset, .unset] [(.int (av.toInt32)), (.int (0 : Int32)), (.ref b76), (.ref b76)])) _
    refine XS.i2b X76.here hx rfl (hb hby at_8) rfl ?_
    show Steps p.tables e below (T76.setTop (mkF m 9 #[.val (.long av), .second, .val (.long cv), .second, .val (.int fv), .val (.int lv), .unset, .unset, .unset, .unset, .unset, .unset, .unset, .unset, .unset, .unset] [(.int ((av.toInt32).toInt8.toInt32)), (.int (0 : Int32)), (.ref b76), (.ref b76)])) _
    exact kt
  have Vo_b76_78 := V_b76
  obtain ⟨cl_b76_78, Ar_b76_78, q_b76_78, S_b76_78, M_b76_78, H_b76_78, G_b76_78⟩ := Vo_b76_78
  have hin78 : ¬ ((0 : Int32) < 0 ∨ cl_b76_78.slots.size ≤ ((0 : Int32)).toNatClampNeg) := inb_of S_b76_78 ⟨by decide, by decide⟩
  obtain ⟨T78, h78, X78, e78, W78, st78⟩ := stB X76 hx hZ e76 Ar_b76_78 (j := (0 : Int32)) hin78 (g := (mkF m 9 #[.val (.long av), .second, .val (.long cv), .second, .val (.int fv), .val (.int lv), .unset, .unset, .unset, .unset, .unset, .unset, .unset, .unset, .unset, .unset] [(.int ((av.toInt32).toInt8.toInt32)), (.int (0 : Int32)), (.ref b76), (.ref b76)])) rfl rfl (hb hby at_9)
  have V78_b76 : Arv Z h78 b76 k76 .byte (16 : Int32) [(.int (nar .byte ((av.toInt32).toInt8.toInt32))), (.int (0 : Int32)), (.int (0 : Int32)), (.int (0 : Int32)), (.int (0 : Int32)), (.int (0 : Int32)), (.int (0 : Int32)), (.int (0 : Int32)), (.int (0 : Int32)), (.int (0 : Int32)), (.int (0 : Int32)), (.int (0 : Int32)), (.int (0 : Int32)), (.int (0 : Int32)), (.int (0 : Int32)), (.int (0 : Int32))] (.int (0 : Int32)) := Arv.set Ar_b76_78 q_b76_78 S_b76_78 M_b76_78 H_b76_78 G_b76_78 (fits_nar_byte _) W78 0 rfl (Nat.le_of_ble_eq_true rfl)
  have F78_0 := V78_b76
  have Zs78 : n0 ≤ h78.size := Nat.le_trans Zs76 (Keep.of_wr W78).1
  have K78 := K76.wr W78 (Or.inr sz_b76)
  have N78 := Fr.snoc X78 N0 g_b76
  have pre78 : ∀ t, Steps p.tables e below (T78.setTop (mkF m 10 #[.val (.long av), .second, .val (.long cv), .second, .val (.int fv), .val (.int lv), .unset, .unset, .unset, .unset, .unset, .unset, .unset, .unset, .unset, .unset] [(.ref b76)])) t → Steps p.tables e below (s₁.setTop (entryFrame m #[(.long av), (.long cv), (.int fv), (.int lv)] maxLocals)) t := fun t kt => pre77 _ (st78 t kt)
  have pre79 : ∀ t, Steps p.tables e below (T78.setTop (mkF m 18 #[.val (.long av), .second, .val (.long cv), .second, .val (.int fv), .val (.int lv), .unset, .unset, .unset, .unset, .unset, .unset, .unset, .unset, .unset, .unset] [(.int ((((av.toUInt64 >>> ((8 : Int32) &&& 0x3f).toInt64.toUInt64).toInt64).toInt32).toInt8.toInt32)), (.int (1 : Int32)), (.ref b76), (.ref b76)])) t → Steps p.tables e below (s₁.setTop (entryFrame m #[(.long av), (.long cv), (.int fv), (.int lv)] maxLocals)) t := fun t kt => by
    refine pre78 _ ?_
    show Steps p.tables e below (T78.setTop (mkF m 10 #[.val (.long av), .second, .val (.long cv), .second, .val (.int fv), .val (.int lv), .unset, .unset, .unset, .unset, .unset, .unset, .unset, .unset, .unset, .unset] [(.ref b76)])) _
    refine XS.dup X78.here hx rfl (hb hby at_10) rfl rfl ?_
    show Steps p.tables e below (T78.setTop (mkF m 11 #[.val (.long av), .second, .val (.long cv), .second, .val (.int fv), .val (.int lv), .unset, .unset, .unset, .unset, .unset, .unset, .unset, .unset, .unset, .unset] [(.ref b76), (.ref b76)])) _
    refine XS.iconst X78.here hx rfl (hb hby at_11) ?_
    show Steps p.tables e below (T78.setTop (mkF m 12 #[.val (.long av), .second, .val (.long cv), .second, .val (.int fv), .val (.int lv), .unset, .unset, .unset, .unset, .unset, .unset, .unset, .unset, .unset, .unset] [(.int (1 : Int32)), (.ref b76), (.ref b76)])) _
    refine XS.lloadN X78.here hx rfl (hb hby at_12) rfl ?_
    show Steps p.tables e below (T78.setTop (mkF m 13 #[.val (.long av), .second, .val (.long cv), .second, .val (.int fv), .val (.int lv), .unset, .unset, .unset, .unset, .unset, .unset, .unset, .unset, .unset, .unset] [(.long av), (.int (1 : Int32)), (.ref b76), (.ref b76)])) _
    refine XS.bipush X78.here hx rfl (hb hby at_13) ?_
    show Steps p.tables e below (T78.setTop (mkF m 15 #[.val (.long av), .second, .val (.long cv), .second, .val (.int fv), .val (.int lv), .unset, .unset, .unset, .unset, .unset, .unset, .unset, .unset, .unset, .unset] [(.int (8 : Int32)), (.long av), (.int (1 : Int32)), (.ref b76), (.ref b76)])) _
    refine XS.lushr X78.here hx rfl (hb hby at_15) rfl ?_
    show Steps p.tables e below (T78.setTop (mkF m 16 #[.val (.long av), .second, .val (.long cv), .second, .val (.int fv), .val (.int lv), .unset, .unset, .unset, .unset, .unset, .unset, .unset, .unset, .unset, .unset] [(.long ((av.toUInt64 >>> ((8 : Int32) &&& 0x3f).toInt64.toUInt64).toInt64)), (.int (1 : Int32)), (.ref b76), (.ref b76)])) _
    refine XS.l2i X78.here hx rfl (hb hby at_16) rfl ?_
    show Steps p.tables e below (T78.setTop (mkF m 17 #[.val (.long av), .second, .val (.long cv), .second, .val (.int fv), .val (.int lv), .unset, .unset, .unset, .unset, .unset, .unset, .unset, .unset, .unset, .unset] [(.int (((av.toUInt64 >>> ((8 : Int32) &&& 0x3f).toInt64.toUInt64).toInt64).toInt32)), (.int (1 : Int32)), (.ref b76), (.ref b76)])) _
    refine XS.i2b X78.here hx rfl (hb hby at_17) rfl ?_
    show Steps p.tables e below (T78.setTop (mkF m 18 #[.val (.long av), .second, .val (.long cv), .second, .val (.int fv), .val (.int lv), .unset, .unset, .unset, .unset, .unset, .unset, .unset, .unset, .unset, .unset] [(.int ((((av.toUInt64 >>> ((8 : Int32) &&& 0x3f).toInt64.toUInt64).toInt64).toInt32).toInt8.toInt32)), (.int (1 : Int32)), (.ref b76), (.ref b76)])) _
    exact kt
  have Vo_b76_80 := F78_0
  obtain ⟨cl_b76_80, Ar_b76_80, q_b76_80, S_b76_80, M_b76_80, H_b76_80, G_b76_80⟩ := Vo_b76_80
  have hin80 : ¬ ((1 : Int32) < 0 ∨ cl_b76_80.slots.size ≤ ((1 : Int32)).toNatClampNeg) := inb_of S_b76_80 ⟨by decide, by decide⟩
  obtain ⟨T80, h80, X80, e80, W80, st80⟩ := stB X78 hx hZ e78 Ar_b76_80 (j := (1 : Int32)) hin80 (g := (mkF m 18 #[.val (.long av), .second, .val (.long cv), .second, .val (.int fv), .val (.int lv), .unset, .unset, .unset, .unset, .unset, .unset, .unset, .unset, .unset, .unset] [(.int ((((av.toUInt64 >>> ((8 : Int32) &&& 0x3f).toInt64.toUInt64).toInt64).toInt32).toInt8.toInt32)), (.int (1 : Int32)), (.ref b76), (.ref b76)])) rfl rfl (hb hby at_18)
  have V80_b76 : Arv Z h80 b76 k76 .byte (16 : Int32) [(.int (nar .byte ((av.toInt32).toInt8.toInt32))), (.int (nar .byte ((((av.toUInt64 >>> ((8 : Int32) &&& 0x3f).toInt64.toUInt64).toInt64).toInt32).toInt8.toInt32))), (.int (0 : Int32)), (.int (0 : Int32)), (.int (0 : Int32)), (.int (0 : Int32)), (.int (0 : Int32)), (.int (0 : Int32)), (.int (0 : Int32)), (.int (0 : Int32)), (.int (0 : Int32)), (.int (0 : Int32)), (.int (0 : Int32)), (.int (0 : Int32)), (.int (0 : Int32)), (.int (0 : Int32))] (.int (0 : Int32)) := Arv.set Ar_b76_80 q_b76_80 S_b76_80 M_b76_80 H_b76_80 G_b76_80 (fits_nar_byte _) W80 1 rfl (Nat.le_of_ble_eq_true rfl)
  have F80_0 := V80_b76
  have Zs80 : n0 ≤ h80.size := Nat.le_trans Zs78 (Keep.of_wr W80).1
  have K80 := K78.wr W80 (Or.inr sz_b76)
  have N80 := Fr.snoc X80 N78 g_b76
  have pre80 : ∀ t, Steps p.tables e below (T80.setTop (mkF m 19 #[.val (.long av), .second, .val (.long cv), .second, .val (.int fv), .val (.int lv), .unset, .unset, .unset, .unset, .unset, .unset, .unset, .unset, .unset, .unset] [(.ref b76)])) t → Steps p.tables e below (s₁.setTop (entryFrame m #[(.long av), (.long cv), (.int fv), (.int lv)] maxLocals)) t := fun t kt => pre79 _ (st80 t kt)
  have pre81 : ∀ t, Steps p.tables e below (T80.setTop (mkF m 27 #[.val (.long av), .second, .val (.long cv), .second, .val (.int fv), .val (.int lv), .unset, .unset, .unset, .unset, .unset, .unset, .unset, .unset, .unset, .unset] [(.int ((((av.toUInt64 >>> ((16 : Int32) &&& 0x3f).toInt64.toUInt64).toInt64).toInt32).toInt8.toInt32)), (.int (2 : Int32)), (.ref b76), (.ref b76)])) t → Steps p.tables e below (s₁.setTop (entryFrame m #[(.long av), (.long cv), (.int fv), (.int lv)] maxLocals)) t := fun t kt => by
    refine pre80 _ ?_
    show Steps p.tables e below (T80.setTop (mkF m 19 #[.val (.long av), .second, .val (.long cv), .second, .val (.int fv), .val (.int lv), .unset, .unset, .unset, .unset, .unset, .unset, .unset, .unset, .unset, .unset] [(.ref b76)])) _
    refine XS.dup X80.here hx rfl (hb hby at_19) rfl rfl ?_
    show Steps p.tables e below (T80.setTop (mkF m 20 #[.val (.long av), .second, .val (.long cv), .second, .val (.int fv), .val (.int lv), .unset, .unset, .unset, .unset, .unset, .unset, .unset, .unset, .unset, .unset] [(.ref b76), (.ref b76)])) _
    refine XS.iconst X80.here hx rfl (hb hby at_20) ?_
    show Steps p.tables e below (T80.setTop (mkF m 21 #[.val (.long av), .second, .val (.long cv), .second, .val (.int fv), .val (.int lv), .unset, .unset, .unset, .unset, .unset, .unset, .unset, .unset, .unset, .unset] [(.int (2 : Int32)), (.ref b76), (.ref b76)])) _
    refine XS.lloadN X80.here hx rfl (hb hby at_21) rfl ?_
    show Steps p.tables e below (T80.setTop (mkF m 22 #[.val (.long av), .second, .val (.long cv), .second, .val (.int fv), .val (.int lv), .unset, .unset, .unset, .unset, .unset, .unset, .unset, .unset, .unset, .unset] [(.long av), (.int (2 : Int32)), (.ref b76), (.ref b76)])) _
    refine XS.bipush X80.here hx rfl (hb hby at_22) ?_
    show Steps p.tables e below (T80.setTop (mkF m 24 #[.val (.long av), .second, .val (.long cv), .second, .val (.int fv), .val (.int lv), .unset, .unset, .unset, .unset, .unset, .unset, .unset, .unset, .unset, .unset] [(.int (16 : Int32)), (.long av), (.int (2 : Int32)), (.ref b76), (.ref b76)])) _
    refine XS.lushr X80.here hx rfl (hb hby at_24) rfl ?_
    show Steps p.tables e below (T80.setTop (mkF m 25 #[.val (.long av), .second, .val (.long cv), .second, .val (.int fv), .val (.int lv), .unset, .unset, .unset, .unset, .unset, .unset, .unset, .unset, .unset, .unset] [(.long ((av.toUInt64 >>> ((16 : Int32) &&& 0x3f).toInt64.toUInt64).toInt64)), (.int (2 : Int32)), (.ref b76), (.ref b76)])) _
    refine XS.l2i X80.here hx rfl (hb hby at_25) rfl ?_
    show Steps p.tables e below (T80.setTop (mkF m 26 #[.val (.long av), .second, .val (.long cv), .second, .val (.int fv), .val (.int lv), .unset, .unset, .unset, .unset, .unset, .unset, .unset, .unset, .unset, .unset] [(.int (((av.toUInt64 >>> ((16 : Int32) &&& 0x3f).toInt64.toUInt64).toInt64).toInt32)), (.int (2 : Int32)), (.ref b76), (.ref b76)])) _
    refine XS.i2b X80.here hx rfl (hb hby at_26) rfl ?_
    show Steps p.tables e below (T80.setTop (mkF m 27 #[.val (.long av), .second, .val (.long cv), .second, .val (.int fv), .val (.int lv), .unset, .unset, .unset, .unset, .unset, .unset, .unset, .unset, .unset, .unset] [(.int ((((av.toUInt64 >>> ((16 : Int32) &&& 0x3f).toInt64.toUInt64).toInt64).toInt32).toInt8.toInt32)), (.int (2 : Int32)), (.ref b76), (.ref b76)])) _
    exact kt
  have Vo_b76_82 := F80_0
  obtain ⟨cl_b76_82, Ar_b76_82, q_b76_82, S_b76_82, M_b76_82, H_b76_82, G_b76_82⟩ := Vo_b76_82
  have hin82 : ¬ ((2 : Int32) < 0 ∨ cl_b76_82.slots.size ≤ ((2 : Int32)).toNatClampNeg) := inb_of S_b76_82 ⟨by decide, by decide⟩
  obtain ⟨T82, h82, X82, e82, W82, st82⟩ := stB X80 hx hZ e80 Ar_b76_82 (j := (2 : Int32)) hin82 (g := (mkF m 27 #[.val (.long av), .second, .val (.long cv), .second, .val (.int fv), .val (.int lv), .unset, .unset, .unset, .unset, .unset, .unset, .unset, .unset, .unset, .unset] [(.int ((((av.toUInt64 >>> ((16 : Int32) &&& 0x3f).toInt64.toUInt64).toInt64).toInt32).toInt8.toInt32)), (.int (2 : Int32)), (.ref b76), (.ref b76)])) rfl rfl (hb hby at_27)
  have V82_b76 : Arv Z h82 b76 k76 .byte (16 : Int32) [(.int (nar .byte ((av.toInt32).toInt8.toInt32))), (.int (nar .byte ((((av.toUInt64 >>> ((8 : Int32) &&& 0x3f).toInt64.toUInt64).toInt64).toInt32).toInt8.toInt32))), (.int (nar .byte ((((av.toUInt64 >>> ((16 : Int32) &&& 0x3f).toInt64.toUInt64).toInt64).toInt32).toInt8.toInt32))), (.int (0 : Int32)), (.int (0 : Int32)), (.int (0 : Int32)), (.int (0 : Int32)), (.int (0 : Int32)), (.int (0 : Int32)), (.int (0 : Int32)), (.int (0 : Int32)), (.int (0 : Int32)), (.int (0 : Int32)), (.int (0 : Int32)), (.int (0 : Int32)), (.int (0 : Int32))] (.int (0 : Int32)) := Arv.set Ar_b76_82 q_b76_82 S_b76_82 M_b76_82 H_b76_82 G_b76_82 (fits_nar_byte _) W82 2 rfl (Nat.le_of_ble_eq_true rfl)
  have F82_0 := V82_b76
  have Zs82 : n0 ≤ h82.size := Nat.le_trans Zs80 (Keep.of_wr W82).1
  have K82 := K80.wr W82 (Or.inr sz_b76)
  have N82 := Fr.snoc X82 N80 g_b76
  have pre82 : ∀ t, Steps p.tables e below (T82.setTop (mkF m 28 #[.val (.long av), .second, .val (.long cv), .second, .val (.int fv), .val (.int lv), .unset, .unset, .unset, .unset, .unset, .unset, .unset, .unset, .unset, .unset] [(.ref b76)])) t → Steps p.tables e below (s₁.setTop (entryFrame m #[(.long av), (.long cv), (.int fv), (.int lv)] maxLocals)) t := fun t kt => pre81 _ (st82 t kt)
  have pre83 : ∀ t, Steps p.tables e below (T82.setTop (mkF m 36 #[.val (.long av), .second, .val (.long cv), .second, .val (.int fv), .val (.int lv), .unset, .unset, .unset, .unset, .unset, .unset, .unset, .unset, .unset, .unset] [(.int ((((av.toUInt64 >>> ((24 : Int32) &&& 0x3f).toInt64.toUInt64).toInt64).toInt32).toInt8.toInt32)), (.int (3 : Int32)), (.ref b76), (.ref b76)])) t → Steps p.tables e below (s₁.setTop (entryFrame m #[(.long av), (.long cv), (.int fv), (.int lv)] maxLocals)) t := fun t kt => by
    refine pre82 _ ?_
    show Steps p.tables e below (T82.setTop (mkF m 28 #[.val (.long av), .second, .val (.long cv), .second, .val (.int fv), .val (.int lv), .unset, .unset, .unset, .unset, .unset, .unset, .unset, .unset, .unset, .unset] [(.ref b76)])) _
    refine XS.dup X82.here hx rfl (hb hby at_28) rfl rfl ?_
    show Steps p.tables e below (T82.setTop (mkF m 29 #[.val (.long av), .second, .val (.long cv), .second, .val (.int fv), .val (.int lv), .unset, .unset, .unset, .unset, .unset, .unset, .unset, .unset, .unset, .unset] [(.ref b76), (.ref b76)])) _
    refine XS.iconst X82.here hx rfl (hb hby at_29) ?_
    show Steps p.tables e below (T82.setTop (mkF m 30 #[.val (.long av), .second, .val (.long cv), .second, .val (.int fv), .val (.int lv), .unset, .unset, .unset, .unset, .unset, .unset, .unset, .unset, .unset, .unset] [(.int (3 : Int32)), (.ref b76), (.ref b76)])) _
    refine XS.lloadN X82.here hx rfl (hb hby at_30) rfl ?_
    show Steps p.tables e below (T82.setTop (mkF m 31 #[.val (.long av), .second, .val (.long cv), .second, .val (.int fv), .val (.int lv), .unset, .unset, .unset, .unset, .unset, .unset, .unset, .unset, .unset, .unset] [(.long av), (.int (3 : Int32)), (.ref b76), (.ref b76)])) _
    refine XS.bipush X82.here hx rfl (hb hby at_31) ?_
    show Steps p.tables e below (T82.setTop (mkF m 33 #[.val (.long av), .second, .val (.long cv), .second, .val (.int fv), .val (.int lv), .unset, .unset, .unset, .unset, .unset, .unset, .unset, .unset, .unset, .unset] [(.int (24 : Int32)), (.long av), (.int (3 : Int32)), (.ref b76), (.ref b76)])) _
    refine XS.lushr X82.here hx rfl (hb hby at_33) rfl ?_
    show Steps p.tables e below (T82.setTop (mkF m 34 #[.val (.long av), .second, .val (.long cv), .second, .val (.int fv), .val (.int lv), .unset, .unset, .unset, .unset, .unset, .unset, .unset, .unset, .unset, .unset] [(.long ((av.toUInt64 >>> ((24 : Int32) &&& 0x3f).toInt64.toUInt64).toInt64)), (.int (3 : Int32)), (.ref b76), (.ref b76)])) _
    refine XS.l2i X82.here hx rfl (hb hby at_34) rfl ?_
    show Steps p.tables e below (T82.setTop (mkF m 35 #[.val (.long av), .second, .val (.long cv), .second, .val (.int fv), .val (.int lv), .unset, .unset, .unset, .unset, .unset, .unset, .unset, .unset, .unset, .unset] [(.int (((av.toUInt64 >>> ((24 : Int32) &&& 0x3f).toInt64.toUInt64).toInt64).toInt32)), (.int (3 : Int32)), (.ref b76), (.ref b76)])) _
    refine XS.i2b X82.here hx rfl (hb hby at_35) rfl ?_
    show Steps p.tables e below (T82.setTop (mkF m 36 #[.val (.long av), .second, .val (.long cv), .second, .val (.int fv), .val (.int lv), .unset, .unset, .unset, .unset, .unset, .unset, .unset, .unset, .unset, .unset] [(.int ((((av.toUInt64 >>> ((24 : Int32) &&& 0x3f).toInt64.toUInt64).toInt64).toInt32).toInt8.toInt32)), (.int (3 : Int32)), (.ref b76), (.ref b76)])) _
    exact kt
  have Vo_b76_84 := F82_0
  obtain ⟨cl_b76_84, Ar_b76_84, q_b76_84, S_b76_84, M_b76_84, H_b76_84, G_b76_84⟩ := Vo_b76_84
  have hin84 : ¬ ((3 : Int32) < 0 ∨ cl_b76_84.slots.size ≤ ((3 : Int32)).toNatClampNeg) := inb_of S_b76_84 ⟨by decide, by decide⟩
  obtain ⟨T84, h84, X84, e84, W84, st84⟩ := stB X82 hx hZ e82 Ar_b76_84 (j := (3 : Int32)) hin84 (g := (mkF m 36 #[.val (.long av), .second, .val (.long cv), .second, .val (.int fv), .val (.int lv), .unset, .unset, .unset, .unset, .unset, .unset, .unset, .unset, .unset, .unset] [(.int ((((av.toUInt64 >>> ((24 : Int32) &&& 0x3f).toInt64.toUInt64).toInt64).toInt32).toInt8.toInt32)), (.int (3 : Int32)), (.ref b76), (.ref b76)])) rfl rfl (hb hby at_36)
  have V84_b76 : Arv Z h84 b76 k76 .byte (16 : Int32) [(.int (nar .byte ((av.toInt32).toInt8.toInt32))), (.int (nar .byte ((((av.toUInt64 >>> ((8 : Int32) &&& 0x3f).toInt64.toUInt64).toInt64).toInt32).toInt8.toInt32))), (.int (nar .byte ((((av.toUInt64 >>> ((16 : Int32) &&& 0x3f).toInt64.toUInt64).toInt64).toInt32).toInt8.toInt32))), (.int (nar .byte ((((av.toUInt64 >>> ((24 : Int32) &&& 0x3f).toInt64.toUInt64).toInt64).toInt32).toInt8.toInt32))), (.int (0 : Int32)), (.int (0 : Int32)), (.int (0 : Int32)), (.int (0 : Int32)), (.int (0 : Int32)), (.int (0 : Int32)), (.int (0 : Int32)), (.int (0 : Int32)), (.int (0 : Int32)), (.int (0 : Int32)), (.int (0 : Int32)), (.int (0 : Int32))] (.int (0 : Int32)) := Arv.set Ar_b76_84 q_b76_84 S_b76_84 M_b76_84 H_b76_84 G_b76_84 (fits_nar_byte _) W84 3 rfl (Nat.le_of_ble_eq_true rfl)
  have F84_0 := V84_b76
  have Zs84 : n0 ≤ h84.size := Nat.le_trans Zs82 (Keep.of_wr W84).1
  have K84 := K82.wr W84 (Or.inr sz_b76)
  have N84 := Fr.snoc X84 N82 g_b76
  have pre84 : ∀ t, Steps p.tables e below (T84.setTop (mkF m 37 #[.val (.long av), .second, .val (.long cv), .second, .val (.int fv), .val (.int lv), .unset, .unset, .unset, .unset, .unset, .unset, .unset, .unset, .unset, .unset] [(.ref b76)])) t → Steps p.tables e below (s₁.setTop (entryFrame m #[(.long av), (.long cv), (.int fv), (.int lv)] maxLocals)) t := fun t kt => pre83 _ (st84 t kt)
  have pre85 : ∀ t, Steps p.tables e below (T84.setTop (mkF m 45 #[.val (.long av), .second, .val (.long cv), .second, .val (.int fv), .val (.int lv), .unset, .unset, .unset, .unset, .unset, .unset, .unset, .unset, .unset, .unset] [(.int ((((av.toUInt64 >>> ((32 : Int32) &&& 0x3f).toInt64.toUInt64).toInt64).toInt32).toInt8.toInt32)), (.int (4 : Int32)), (.ref b76), (.ref b76)])) t → Steps p.tables e below (s₁.setTop (entryFrame m #[(.long av), (.long cv), (.int fv), (.int lv)] maxLocals)) t := fun t kt => by
    refine pre84 _ ?_
    show Steps p.tables e below (T84.setTop (mkF m 37 #[.val (.long av), .second, .val (.long cv), .second, .val (.int fv), .val (.int lv), .unset, .unset, .unset, .unset, .unset, .unset, .unset, .unset, .unset, .unset] [(.ref b76)])) _
    refine XS.dup X84.here hx rfl (hb hby at_37) rfl rfl ?_
    show Steps p.tables e below (T84.setTop (mkF m 38 #[.val (.long av), .second, .val (.long cv), .second, .val (.int fv), .val (.int lv), .unset, .unset, .unset, .unset, .unset, .unset, .unset, .unset, .unset, .unset] [(.ref b76), (.ref b76)])) _
    refine XS.iconst X84.here hx rfl (hb hby at_38) ?_
    show Steps p.tables e below (T84.setTop (mkF m 39 #[.val (.long av), .second, .val (.long cv), .second, .val (.int fv), .val (.int lv), .unset, .unset, .unset, .unset, .unset, .unset, .unset, .unset, .unset, .unset] [(.int (4 : Int32)), (.ref b76), (.ref b76)])) _
    refine XS.lloadN X84.here hx rfl (hb hby at_39) rfl ?_
    show Steps p.tables e below (T84.setTop (mkF m 40 #[.val (.long av), .second, .val (.long cv), .second, .val (.int fv), .val (.int lv), .unset, .unset, .unset, .unset, .unset, .unset, .unset, .unset, .unset, .unset] [(.long av), (.int (4 : Int32)), (.ref b76), (.ref b76)])) _
    refine XS.bipush X84.here hx rfl (hb hby at_40) ?_
    show Steps p.tables e below (T84.setTop (mkF m 42 #[.val (.long av), .second, .val (.long cv), .second, .val (.int fv), .val (.int lv), .unset, .unset, .unset, .unset, .unset, .unset, .unset, .unset, .unset, .unset] [(.int (32 : Int32)), (.long av), (.int (4 : Int32)), (.ref b76), (.ref b76)])) _
    refine XS.lushr X84.here hx rfl (hb hby at_42) rfl ?_
    show Steps p.tables e below (T84.setTop (mkF m 43 #[.val (.long av), .second, .val (.long cv), .second, .val (.int fv), .val (.int lv), .unset, .unset, .unset, .unset, .unset, .unset, .unset, .unset, .unset, .unset] [(.long ((av.toUInt64 >>> ((32 : Int32) &&& 0x3f).toInt64.toUInt64).toInt64)), (.int (4 : Int32)), (.ref b76), (.ref b76)])) _
    refine XS.l2i X84.here hx rfl (hb hby at_43) rfl ?_
    show Steps p.tables e below (T84.setTop (mkF m 44 #[.val (.long av), .second, .val (.long cv), .second, .val (.int fv), .val (.int lv), .unset, .unset, .unset, .unset, .unset, .unset, .unset, .unset, .unset, .unset] [(.int (((av.toUInt64 >>> ((32 : Int32) &&& 0x3f).toInt64.toUInt64).toInt64).toInt32)), (.int (4 : Int32)), (.ref b76), (.ref b76)])) _
    refine XS.i2b X84.here hx rfl (hb hby at_44) rfl ?_
    show Steps p.tables e below (T84.setTop (mkF m 45 #[.val (.long av), .second, .val (.long cv), .second, .val (.int fv), .val (.int lv), .unset, .unset, .unset, .unset, .unset, .unset, .unset, .unset, .unset, .unset] [(.int ((((av.toUInt64 >>> ((32 : Int32) &&& 0x3f).toInt64.toUInt64).toInt64).toInt32).toInt8.toInt32)), (.int (4 : Int32)), (.ref b76), (.ref b76)])) _
    exact kt
  have Vo_b76_86 := F84_0
  obtain ⟨cl_b76_86, Ar_b76_86, q_b76_86, S_b76_86, M_b76_86, H_b76_86, G_b76_86⟩ := Vo_b76_86
  have hin86 : ¬ ((4 : Int32) < 0 ∨ cl_b76_86.slots.size ≤ ((4 : Int32)).toNatClampNeg) := inb_of S_b76_86 ⟨by decide, by decide⟩
  obtain ⟨T86, h86, X86, e86, W86, st86⟩ := stB X84 hx hZ e84 Ar_b76_86 (j := (4 : Int32)) hin86 (g := (mkF m 45 #[.val (.long av), .second, .val (.long cv), .second, .val (.int fv), .val (.int lv), .unset, .unset, .unset, .unset, .unset, .unset, .unset, .unset, .unset, .unset] [(.int ((((av.toUInt64 >>> ((32 : Int32) &&& 0x3f).toInt64.toUInt64).toInt64).toInt32).toInt8.toInt32)), (.int (4 : Int32)), (.ref b76), (.ref b76)])) rfl rfl (hb hby at_45)
  have V86_b76 : Arv Z h86 b76 k76 .byte (16 : Int32) [(.int (nar .byte ((av.toInt32).toInt8.toInt32))), (.int (nar .byte ((((av.toUInt64 >>> ((8 : Int32) &&& 0x3f).toInt64.toUInt64).toInt64).toInt32).toInt8.toInt32))), (.int (nar .byte ((((av.toUInt64 >>> ((16 : Int32) &&& 0x3f).toInt64.toUInt64).toInt64).toInt32).toInt8.toInt32))), (.int (nar .byte ((((av.toUInt64 >>> ((24 : Int32) &&& 0x3f).toInt64.toUInt64).toInt64).toInt32).toInt8.toInt32))), (.int (nar .byte ((((av.toUInt64 >>> ((32 : Int32) &&& 0x3f).toInt64.toUInt64).toInt64).toInt32).toInt8.toInt32))), (.int (0 : Int32)), (.int (0 : Int32)), (.int (0 : Int32)), (.int (0 : Int32)), (.int (0 : Int32)), (.int (0 : Int32)), (.int (0 : Int32)), (.int (0 : Int32)), (.int (0 : Int32)), (.int (0 : Int32)), (.int (0 : Int32))] (.int (0 : Int32)) := Arv.set Ar_b76_86 q_b76_86 S_b76_86 M_b76_86 H_b76_86 G_b76_86 (fits_nar_byte _) W86 4 rfl (Nat.le_of_ble_eq_true rfl)
  have F86_0 := V86_b76
  have Zs86 : n0 ≤ h86.size := Nat.le_trans Zs84 (Keep.of_wr W86).1
  have K86 := K84.wr W86 (Or.inr sz_b76)
  have N86 := Fr.snoc X86 N84 g_b76
  have pre86 : ∀ t, Steps p.tables e below (T86.setTop (mkF m 46 #[.val (.long av), .second, .val (.long cv), .second, .val (.int fv), .val (.int lv), .unset, .unset, .unset, .unset, .unset, .unset, .unset, .unset, .unset, .unset] [(.ref b76)])) t → Steps p.tables e below (s₁.setTop (entryFrame m #[(.long av), (.long cv), (.int fv), (.int lv)] maxLocals)) t := fun t kt => pre85 _ (st86 t kt)
  have pre87 : ∀ t, Steps p.tables e below (T86.setTop (mkF m 54 #[.val (.long av), .second, .val (.long cv), .second, .val (.int fv), .val (.int lv), .unset, .unset, .unset, .unset, .unset, .unset, .unset, .unset, .unset, .unset] [(.int ((((av.toUInt64 >>> ((40 : Int32) &&& 0x3f).toInt64.toUInt64).toInt64).toInt32).toInt8.toInt32)), (.int (5 : Int32)), (.ref b76), (.ref b76)])) t → Steps p.tables e below (s₁.setTop (entryFrame m #[(.long av), (.long cv), (.int fv), (.int lv)] maxLocals)) t := fun t kt => by
    refine pre86 _ ?_
    show Steps p.tables e below (T86.setTop (mkF m 46 #[.val (.long av), .second, .val (.long cv), .second, .val (.int fv), .val (.int lv), .unset, .unset, .unset, .unset, .unset, .unset, .unset, .unset, .unset, .unset] [(.ref b76)])) _
    refine XS.dup X86.here hx rfl (hb hby at_46) rfl rfl ?_
    show Steps p.tables e below (T86.setTop (mkF m 47 #[.val (.long av), .second, .val (.long cv), .second, .val (.int fv), .val (.int lv), .unset, .unset, .unset, .unset, .unset, .unset, .unset, .unset, .unset, .unset] [(.ref b76), (.ref b76)])) _
    refine XS.iconst X86.here hx rfl (hb hby at_47) ?_
    show Steps p.tables e below (T86.setTop (mkF m 48 #[.val (.long av), .second, .val (.long cv), .second, .val (.int fv), .val (.int lv), .unset, .unset, .unset, .unset, .unset, .unset, .unset, .unset, .unset, .unset] [(.int (5 : Int32)), (.ref b76), (.ref b76)])) _
    refine XS.lloadN X86.here hx rfl (hb hby at_48) rfl ?_
    show Steps p.tables e below (T86.setTop (mkF m 49 #[.val (.long av), .second, .val (.long cv), .second, .val (.int fv), .val (.int lv), .unset, .unset, .unset, .unset, .unset, .unset, .unset, .unset, .unset, .unset] [(.long av), (.int (5 : Int32)), (.ref b76), (.ref b76)])) _
    refine XS.bipush X86.here hx rfl (hb hby at_49) ?_
    show Steps p.tables e below (T86.setTop (mkF m 51 #[.val (.long av), .second, .val (.long cv), .second, .val (.int fv), .val (.int lv), .unset, .unset, .unset, .unset, .unset, .unset, .unset, .unset, .unset, .unset] [(.int (40 : Int32)), (.long av), (.int (5 : Int32)), (.ref b76), (.ref b76)])) _
    refine XS.lushr X86.here hx rfl (hb hby at_51) rfl ?_
    show Steps p.tables e below (T86.setTop (mkF m 52 #[.val (.long av), .second, .val (.long cv), .second, .val (.int fv), .val (.int lv), .unset, .unset, .unset, .unset, .unset, .unset, .unset, .unset, .unset, .unset] [(.long ((av.toUInt64 >>> ((40 : Int32) &&& 0x3f).toInt64.toUInt64).toInt64)), (.int (5 : Int32)), (.ref b76), (.ref b76)])) _
    refine XS.l2i X86.here hx rfl (hb hby at_52) rfl ?_
    show Steps p.tables e below (T86.setTop (mkF m 53 #[.val (.long av), .second, .val (.long cv), .second, .val (.int fv), .val (.int lv), .unset, .unset, .unset, .unset, .unset, .unset, .unset, .unset, .unset, .unset] [(.int (((av.toUInt64 >>> ((40 : Int32) &&& 0x3f).toInt64.toUInt64).toInt64).toInt32)), (.int (5 : Int32)), (.ref b76), (.ref b76)])) _
    refine XS.i2b X86.here hx rfl (hb hby at_53) rfl ?_
    show Steps p.tables e below (T86.setTop (mkF m 54 #[.val (.long av), .second, .val (.long cv), .second, .val (.int fv), .val (.int lv), .unset, .unset, .unset, .unset, .unset, .unset, .unset, .unset, .unset, .unset] [(.int ((((av.toUInt64 >>> ((40 : Int32) &&& 0x3f).toInt64.toUInt64).toInt64).toInt32).toInt8.toInt32)), (.int (5 : Int32)), (.ref b76), (.ref b76)])) _
    exact kt
  have Vo_b76_88 := F86_0
  obtain ⟨cl_b76_88, Ar_b76_88, q_b76_88, S_b76_88, M_b76_88, H_b76_88, G_b76_88⟩ := Vo_b76_88
  have hin88 : ¬ ((5 : Int32) < 0 ∨ cl_b76_88.slots.size ≤ ((5 : Int32)).toNatClampNeg) := inb_of S_b76_88 ⟨by decide, by decide⟩
  obtain ⟨T88, h88, X88, e88, W88, st88⟩ := stB X86 hx hZ e86 Ar_b76_88 (j := (5 : Int32)) hin88 (g := (mkF m 54 #[.val (.long av), .second, .val (.long cv), .second, .val (.int fv), .val (.int lv), .unset, .unset, .unset, .unset, .unset, .unset, .unset, .unset, .unset, .unset] [(.int ((((av.toUInt64 >>> ((40 : Int32) &&& 0x3f).toInt64.toUInt64).toInt64).toInt32).toInt8.toInt32)), (.int (5 : Int32)), (.ref b76), (.ref b76)])) rfl rfl (hb hby at_54)
  have V88_b76 : Arv Z h88 b76 k76 .byte (16 : Int32) [(.int (nar .byte ((av.toInt32).toInt8.toInt32))), (.int (nar .byte ((((av.toUInt64 >>> ((8 : Int32) &&& 0x3f).toInt64.toUInt64).toInt64).toInt32).toInt8.toInt32))), (.int (nar .byte ((((av.toUInt64 >>> ((16 : Int32) &&& 0x3f).toInt64.toUInt64).toInt64).toInt32).toInt8.toInt32))), (.int (nar .byte ((((av.toUInt64 >>> ((24 : Int32) &&& 0x3f).toInt64.toUInt64).toInt64).toInt32).toInt8.toInt32))), (.int (nar .byte ((((av.toUInt64 >>> ((32 : Int32) &&& 0x3f).toInt64.toUInt64).toInt64).toInt32).toInt8.toInt32))), (.int (nar .byte ((((av.toUInt64 >>> ((40 : Int32) &&& 0x3f).toInt64.toUInt64).toInt64).toInt32).toInt8.toInt32))), (.int (0 : Int32)), (.int (0 : Int32)), (.int (0 : Int32)), (.int (0 : Int32)), (.int (0 : Int32)), (.int (0 : Int32)), (.int (0 : Int32)), (.int (0 : Int32)), (.int (0 : Int32)), (.int (0 : Int32))] (.int (0 : Int32)) := Arv.set Ar_b76_88 q_b76_88 S_b76_88 M_b76_88 H_b76_88 G_b76_88 (fits_nar_byte _) W88 5 rfl (Nat.le_of_ble_eq_true rfl)
  have F88_0 := V88_b76
  have Zs88 : n0 ≤ h88.size := Nat.le_trans Zs86 (Keep.of_wr W88).1
  have K88 := K86.wr W88 (Or.inr sz_b76)
  have N88 := Fr.snoc X88 N86 g_b76
  have pre88 : ∀ t, Steps p.tables e below (T88.setTop (mkF m 55 #[.val (.long av), .second, .val (.long cv), .second, .val (.int fv), .val (.int lv), .unset, .unset, .unset, .unset, .unset, .unset, .unset, .unset, .unset, .unset] [(.ref b76)])) t → Steps p.tables e below (s₁.setTop (entryFrame m #[(.long av), (.long cv), (.int fv), (.int lv)] maxLocals)) t := fun t kt => pre87 _ (st88 t kt)
  have pre89 : ∀ t, Steps p.tables e below (T88.setTop (mkF m 64 #[.val (.long av), .second, .val (.long cv), .second, .val (.int fv), .val (.int lv), .unset, .unset, .unset, .unset, .unset, .unset, .unset, .unset, .unset, .unset] [(.int ((((av.toUInt64 >>> ((48 : Int32) &&& 0x3f).toInt64.toUInt64).toInt64).toInt32).toInt8.toInt32)), (.int (6 : Int32)), (.ref b76), (.ref b76)])) t → Steps p.tables e below (s₁.setTop (entryFrame m #[(.long av), (.long cv), (.int fv), (.int lv)] maxLocals)) t := fun t kt => by
    refine pre88 _ ?_
    show Steps p.tables e below (T88.setTop (mkF m 55 #[.val (.long av), .second, .val (.long cv), .second, .val (.int fv), .val (.int lv), .unset, .unset, .unset, .unset, .unset, .unset, .unset, .unset, .unset, .unset] [(.ref b76)])) _
    refine XS.dup X88.here hx rfl (hb hby at_55) rfl rfl ?_
    show Steps p.tables e below (T88.setTop (mkF m 56 #[.val (.long av), .second, .val (.long cv), .second, .val (.int fv), .val (.int lv), .unset, .unset, .unset, .unset, .unset, .unset, .unset, .unset, .unset, .unset] [(.ref b76), (.ref b76)])) _
    refine XS.bipush X88.here hx rfl (hb hby at_56) ?_
    show Steps p.tables e below (T88.setTop (mkF m 58 #[.val (.long av), .second, .val (.long cv), .second, .val (.int fv), .val (.int lv), .unset, .unset, .unset, .unset, .unset, .unset, .unset, .unset, .unset, .unset] [(.int (6 : Int32)), (.ref b76), (.ref b76)])) _
    refine XS.lloadN X88.here hx rfl (hb hby at_58) rfl ?_
    show Steps p.tables e below (T88.setTop (mkF m 59 #[.val (.long av), .second, .val (.long cv), .second, .val (.int fv), .val (.int lv), .unset, .unset, .unset, .unset, .unset, .unset, .unset, .unset, .unset, .unset] [(.long av), (.int (6 : Int32)), (.ref b76), (.ref b76)])) _
    refine XS.bipush X88.here hx rfl (hb hby at_59) ?_
    show Steps p.tables e below (T88.setTop (mkF m 61 #[.val (.long av), .second, .val (.long cv), .second, .val (.int fv), .val (.int lv), .unset, .unset, .unset, .unset, .unset, .unset, .unset, .unset, .unset, .unset] [(.int (48 : Int32)), (.long av), (.int (6 : Int32)), (.ref b76), (.ref b76)])) _
    refine XS.lushr X88.here hx rfl (hb hby at_61) rfl ?_
    show Steps p.tables e below (T88.setTop (mkF m 62 #[.val (.long av), .second, .val (.long cv), .second, .val (.int fv), .val (.int lv), .unset, .unset, .unset, .unset, .unset, .unset, .unset, .unset, .unset, .unset] [(.long ((av.toUInt64 >>> ((48 : Int32) &&& 0x3f).toInt64.toUInt64).toInt64)), (.int (6 : Int32)), (.ref b76), (.ref b76)])) _
    refine XS.l2i X88.here hx rfl (hb hby at_62) rfl ?_
    show Steps p.tables e below (T88.setTop (mkF m 63 #[.val (.long av), .second, .val (.long cv), .second, .val (.int fv), .val (.int lv), .unset, .unset, .unset, .unset, .unset, .unset, .unset, .unset, .unset, .unset] [(.int (((av.toUInt64 >>> ((48 : Int32) &&& 0x3f).toInt64.toUInt64).toInt64).toInt32)), (.int (6 : Int32)), (.ref b76), (.ref b76)])) _
    refine XS.i2b X88.here hx rfl (hb hby at_63) rfl ?_
    show Steps p.tables e below (T88.setTop (mkF m 64 #[.val (.long av), .second, .val (.long cv), .second, .val (.int fv), .val (.int lv), .unset, .unset, .unset, .unset, .unset, .unset, .unset, .unset, .unset, .unset] [(.int ((((av.toUInt64 >>> ((48 : Int32) &&& 0x3f).toInt64.toUInt64).toInt64).toInt32).toInt8.toInt32)), (.int (6 : Int32)), (.ref b76), (.ref b76)])) _
    exact kt
  have Vo_b76_90 := F88_0
  obtain ⟨cl_b76_90, Ar_b76_90, q_b76_90, S_b76_90, M_b76_90, H_b76_90, G_b76_90⟩ := Vo_b76_90
  have hin90 : ¬ ((6 : Int32) < 0 ∨ cl_b76_90.slots.size ≤ ((6 : Int32)).toNatClampNeg) := inb_of S_b76_90 ⟨by decide, by decide⟩
  obtain ⟨T90, h90, X90, e90, W90, st90⟩ := stB X88 hx hZ e88 Ar_b76_90 (j := (6 : Int32)) hin90 (g := (mkF m 64 #[.val (.long av), .second, .val (.long cv), .second, .val (.int fv), .val (.int lv), .unset, .unset, .unset, .unset, .unset, .unset, .unset, .unset, .unset, .unset] [(.int ((((av.toUInt64 >>> ((48 : Int32) &&& 0x3f).toInt64.toUInt64).toInt64).toInt32).toInt8.toInt32)), (.int (6 : Int32)), (.ref b76), (.ref b76)])) rfl rfl (hb hby at_64)
  have V90_b76 : Arv Z h90 b76 k76 .byte (16 : Int32) [(.int (nar .byte ((av.toInt32).toInt8.toInt32))), (.int (nar .byte ((((av.toUInt64 >>> ((8 : Int32) &&& 0x3f).toInt64.toUInt64).toInt64).toInt32).toInt8.toInt32))), (.int (nar .byte ((((av.toUInt64 >>> ((16 : Int32) &&& 0x3f).toInt64.toUInt64).toInt64).toInt32).toInt8.toInt32))), (.int (nar .byte ((((av.toUInt64 >>> ((24 : Int32) &&& 0x3f).toInt64.toUInt64).toInt64).toInt32).toInt8.toInt32))), (.int (nar .byte ((((av.toUInt64 >>> ((32 : Int32) &&& 0x3f).toInt64.toUInt64).toInt64).toInt32).toInt8.toInt32))), (.int (nar .byte ((((av.toUInt64 >>> ((40 : Int32) &&& 0x3f).toInt64.toUInt64).toInt64).toInt32).toInt8.toInt32))), (.int (nar .byte ((((av.toUInt64 >>> ((48 : Int32) &&& 0x3f).toInt64.toUInt64).toInt64).toInt32).toInt8.toInt32))), (.int (0 : Int32)), (.int (0 : Int32)), (.int (0 : Int32)), (.int (0 : Int32)), (.int (0 : Int32)), (.int (0 : Int32)), (.int (0 : Int32)), (.int (0 : Int32)), (.int (0 : Int32))] (.int (0 : Int32)) := Arv.set Ar_b76_90 q_b76_90 S_b76_90 M_b76_90 H_b76_90 G_b76_90 (fits_nar_byte _) W90 6 rfl (Nat.le_of_ble_eq_true rfl)
  have F90_0 := V90_b76
  have Zs90 : n0 ≤ h90.size := Nat.le_trans Zs88 (Keep.of_wr W90).1
  have K90 := K88.wr W90 (Or.inr sz_b76)
  have N90 := Fr.snoc X90 N88 g_b76
  have pre90 : ∀ t, Steps p.tables e below (T90.setTop (mkF m 65 #[.val (.long av), .second, .val (.long cv), .second, .val (.int fv), .val (.int lv), .unset, .unset, .unset, .unset, .unset, .unset, .unset, .unset, .unset, .unset] [(.ref b76)])) t → Steps p.tables e below (s₁.setTop (entryFrame m #[(.long av), (.long cv), (.int fv), (.int lv)] maxLocals)) t := fun t kt => pre89 _ (st90 t kt)
  have pre91 : ∀ t, Steps p.tables e below (T90.setTop (mkF m 74 #[.val (.long av), .second, .val (.long cv), .second, .val (.int fv), .val (.int lv), .unset, .unset, .unset, .unset, .unset, .unset, .unset, .unset, .unset, .unset] [(.int ((((av.toUInt64 >>> ((56 : Int32) &&& 0x3f).toInt64.toUInt64).toInt64).toInt32).toInt8.toInt32)), (.int (7 : Int32)), (.ref b76), (.ref b76)])) t → Steps p.tables e below (s₁.setTop (entryFrame m #[(.long av), (.long cv), (.int fv), (.int lv)] maxLocals)) t := fun t kt => by
    refine pre90 _ ?_
    show Steps p.tables e below (T90.setTop (mkF m 65 #[.val (.long av), .second, .val (.long cv), .second, .val (.int fv), .val (.int lv), .unset, .unset, .unset, .unset, .unset, .unset, .unset, .unset, .unset, .unset] [(.ref b76)])) _
    refine XS.dup X90.here hx rfl (hb hby at_65) rfl rfl ?_
    show Steps p.tables e below (T90.setTop (mkF m 66 #[.val (.long av), .second, .val (.long cv), .second, .val (.int fv), .val (.int lv), .unset, .unset, .unset, .unset, .unset, .unset, .unset, .unset, .unset, .unset] [(.ref b76), (.ref b76)])) _
    refine XS.bipush X90.here hx rfl (hb hby at_66) ?_
    show Steps p.tables e below (T90.setTop (mkF m 68 #[.val (.long av), .second, .val (.long cv), .second, .val (.int fv), .val (.int lv), .unset, .unset, .unset, .unset, .unset, .unset, .unset, .unset, .unset, .unset] [(.int (7 : Int32)), (.ref b76), (.ref b76)])) _
    refine XS.lloadN X90.here hx rfl (hb hby at_68) rfl ?_
    show Steps p.tables e below (T90.setTop (mkF m 69 #[.val (.long av), .second, .val (.long cv), .second, .val (.int fv), .val (.int lv), .unset, .unset, .unset, .unset, .unset, .unset, .unset, .unset, .unset, .unset] [(.long av), (.int (7 : Int32)), (.ref b76), (.ref b76)])) _
    refine XS.bipush X90.here hx rfl (hb hby at_69) ?_
    show Steps p.tables e below (T90.setTop (mkF m 71 #[.val (.long av), .second, .val (.long cv), .second, .val (.int fv), .val (.int lv), .unset, .unset, .unset, .unset, .unset, .unset, .unset, .unset, .unset, .unset] [(.int (56 : Int32)), (.long av), (.int (7 : Int32)), (.ref b76), (.ref b76)])) _
    refine XS.lushr X90.here hx rfl (hb hby at_71) rfl ?_
    show Steps p.tables e below (T90.setTop (mkF m 72 #[.val (.long av), .second, .val (.long cv), .second, .val (.int fv), .val (.int lv), .unset, .unset, .unset, .unset, .unset, .unset, .unset, .unset, .unset, .unset] [(.long ((av.toUInt64 >>> ((56 : Int32) &&& 0x3f).toInt64.toUInt64).toInt64)), (.int (7 : Int32)), (.ref b76), (.ref b76)])) _
    refine XS.l2i X90.here hx rfl (hb hby at_72) rfl ?_
    show Steps p.tables e below (T90.setTop (mkF m 73 #[.val (.long av), .second, .val (.long cv), .second, .val (.int fv), .val (.int lv), .unset, .unset, .unset, .unset, .unset, .unset, .unset, .unset, .unset, .unset] [(.int (((av.toUInt64 >>> ((56 : Int32) &&& 0x3f).toInt64.toUInt64).toInt64).toInt32)), (.int (7 : Int32)), (.ref b76), (.ref b76)])) _
    refine XS.i2b X90.here hx rfl (hb hby at_73) rfl ?_
    show Steps p.tables e below (T90.setTop (mkF m 74 #[.val (.long av), .second, .val (.long cv), .second, .val (.int fv), .val (.int lv), .unset, .unset, .unset, .unset, .unset, .unset, .unset, .unset, .unset, .unset] [(.int ((((av.toUInt64 >>> ((56 : Int32) &&& 0x3f).toInt64.toUInt64).toInt64).toInt32).toInt8.toInt32)), (.int (7 : Int32)), (.ref b76), (.ref b76)])) _
    exact kt
  have Vo_b76_92 := F90_0
  obtain ⟨cl_b76_92, Ar_b76_92, q_b76_92, S_b76_92, M_b76_92, H_b76_92, G_b76_92⟩ := Vo_b76_92
  have hin92 : ¬ ((7 : Int32) < 0 ∨ cl_b76_92.slots.size ≤ ((7 : Int32)).toNatClampNeg) := inb_of S_b76_92 ⟨by decide, by decide⟩
  obtain ⟨T92, h92, X92, e92, W92, st92⟩ := stB X90 hx hZ e90 Ar_b76_92 (j := (7 : Int32)) hin92 (g := (mkF m 74 #[.val (.long av), .second, .val (.long cv), .second, .val (.int fv), .val (.int lv), .unset, .unset, .unset, .unset, .unset, .unset, .unset, .unset, .unset, .unset] [(.int ((((av.toUInt64 >>> ((56 : Int32) &&& 0x3f).toInt64.toUInt64).toInt64).toInt32).toInt8.toInt32)), (.int (7 : Int32)), (.ref b76), (.ref b76)])) rfl rfl (hb hby at_74)
  have V92_b76 : Arv Z h92 b76 k76 .byte (16 : Int32) [(.int (nar .byte ((av.toInt32).toInt8.toInt32))), (.int (nar .byte ((((av.toUInt64 >>> ((8 : Int32) &&& 0x3f).toInt64.toUInt64).toInt64).toInt32).toInt8.toInt32))), (.int (nar .byte ((((av.toUInt64 >>> ((16 : Int32) &&& 0x3f).toInt64.toUInt64).toInt64).toInt32).toInt8.toInt32))), (.int (nar .byte ((((av.toUInt64 >>> ((24 : Int32) &&& 0x3f).toInt64.toUInt64).toInt64).toInt32).toInt8.toInt32))), (.int (nar .byte ((((av.toUInt64 >>> ((32 : Int32) &&& 0x3f).toInt64.toUInt64).toInt64).toInt32).toInt8.toInt32))), (.int (nar .byte ((((av.toUInt64 >>> ((40 : Int32) &&& 0x3f).toInt64.toUInt64).toInt64).toInt32).toInt8.toInt32))), (.int (nar .byte ((((av.toUInt64 >>> ((48 : Int32) &&& 0x3f).toInt64.toUInt64).toInt64).toInt32).toInt8.toInt32))), (.int (nar .byte ((((av.toUInt64 >>> ((56 : Int32) &&& 0x3f).toInt64.toUInt64).toInt64).toInt32).toInt8.toInt32))), (.int (0 : Int32)), (.int (0 : Int32)), (.int (0 : Int32)), (.int (0 : Int32)), (.int (0 : Int32)), (.int (0 : Int32)), (.int (0 : Int32)), (.int (0 : Int32))] (.int (0 : Int32)) := Arv.set Ar_b76_92 q_b76_92 S_b76_92 M_b76_92 H_b76_92 G_b76_92 (fits_nar_byte _) W92 7 rfl (Nat.le_of_ble_eq_true rfl)
  have F92_0 := V92_b76
  have Zs92 : n0 ≤ h92.size := Nat.le_trans Zs90 (Keep.of_wr W92).1
  have K92 := K90.wr W92 (Or.inr sz_b76)
  have N92 := Fr.snoc X92 N90 g_b76
  have pre92 : ∀ t, Steps p.tables e below (T92.setTop (mkF m 75 #[.val (.long av), .second, .val (.long cv), .second, .val (.int fv), .val (.int lv), .unset, .unset, .unset, .unset, .unset, .unset, .unset, .unset, .unset, .unset] [(.ref b76)])) t → Steps p.tables e below (s₁.setTop (entryFrame m #[(.long av), (.long cv), (.int fv), (.int lv)] maxLocals)) t := fun t kt => pre91 _ (st92 t kt)
  have pre93 : ∀ t, Steps p.tables e below (T92.setTop (mkF m 81 #[.val (.long av), .second, .val (.long cv), .second, .val (.int fv), .val (.int lv), .unset, .unset, .unset, .unset, .unset, .unset, .unset, .unset, .unset, .unset] [(.int ((cv.toInt32).toInt8.toInt32)), (.int (8 : Int32)), (.ref b76), (.ref b76)])) t → Steps p.tables e below (s₁.setTop (entryFrame m #[(.long av), (.long cv), (.int fv), (.int lv)] maxLocals)) t := fun t kt => by
    refine pre92 _ ?_
    show Steps p.tables e below (T92.setTop (mkF m 75 #[.val (.long av), .second, .val (.long cv), .second, .val (.int fv), .val (.int lv), .unset, .unset, .unset, .unset, .unset, .unset, .unset, .unset, .unset, .unset] [(.ref b76)])) _
    refine XS.dup X92.here hx rfl (hb hby at_75) rfl rfl ?_
    show Steps p.tables e below (T92.setTop (mkF m 76 #[.val (.long av), .second, .val (.long cv), .second, .val (.int fv), .val (.int lv), .unset, .unset, .unset, .unset, .unset, .unset, .unset, .unset, .unset, .unset] [(.ref b76), (.ref b76)])) _
    refine XS.bipush X92.here hx rfl (hb hby at_76) ?_
    show Steps p.tables e below (T92.setTop (mkF m 78 #[.val (.long av), .second, .val (.long cv), .second, .val (.int fv), .val (.int lv), .unset, .unset, .unset, .unset, .unset, .unset, .unset, .unset, .unset, .unset] [(.int (8 : Int32)), (.ref b76), (.ref b76)])) _
    refine XS.lloadN X92.here hx rfl (hb hby at_78) rfl ?_
    show Steps p.tables e below (T92.setTop (mkF m 79 #[.val (.long av), .second, .val (.long cv), .second, .val (.int fv), .val (.int lv), .unset, .unset, .unset, .unset, .unset, .unset, .unset, .unset, .unset, .unset] [(.long cv), (.int (8 : Int32)), (.ref b76), (.ref b76)])) _
    refine XS.l2i X92.here hx rfl (hb hby at_79) rfl ?_
    show Steps p.tables e below (T92.setTop (mkF m 80 #[.val (.long av), .second, .val (.long cv), .second, .val (.int fv), .val (.int lv), .unset, .unset, .unset, .unset, .unset, .unset, .unset, .unset, .unset, .unset] [(.int (cv.toInt32)), (.int (8 : Int32)), (.ref b76), (.ref b76)])) _
    refine XS.i2b X92.here hx rfl (hb hby at_80) rfl ?_
    show Steps p.tables e below (T92.setTop (mkF m 81 #[.val (.long av), .second, .val (.long cv), .second, .val (.int fv), .val (.int lv), .unset, .unset, .unset, .unset, .unset, .unset, .unset, .unset, .unset, .unset] [(.int ((cv.toInt32).toInt8.toInt32)), (.int (8 : Int32)), (.ref b76), (.ref b76)])) _
    exact kt
  have Vo_b76_94 := F92_0
  obtain ⟨cl_b76_94, Ar_b76_94, q_b76_94, S_b76_94, M_b76_94, H_b76_94, G_b76_94⟩ := Vo_b76_94
  have hin94 : ¬ ((8 : Int32) < 0 ∨ cl_b76_94.slots.size ≤ ((8 : Int32)).toNatClampNeg) := inb_of S_b76_94 ⟨by decide, by decide⟩
  obtain ⟨T94, h94, X94, e94, W94, st94⟩ := stB X92 hx hZ e92 Ar_b76_94 (j := (8 : Int32)) hin94 (g := (mkF m 81 #[.val (.long av), .second, .val (.long cv), .second, .val (.int fv), .val (.int lv), .unset, .unset, .unset, .unset, .unset, .unset, .unset, .unset, .unset, .unset] [(.int ((cv.toInt32).toInt8.toInt32)), (.int (8 : Int32)), (.ref b76), (.ref b76)])) rfl rfl (hb hby at_81)
  have V94_b76 : Arv Z h94 b76 k76 .byte (16 : Int32) [(.int (nar .byte ((av.toInt32).toInt8.toInt32))), (.int (nar .byte ((((av.toUInt64 >>> ((8 : Int32) &&& 0x3f).toInt64.toUInt64).toInt64).toInt32).toInt8.toInt32))), (.int (nar .byte ((((av.toUInt64 >>> ((16 : Int32) &&& 0x3f).toInt64.toUInt64).toInt64).toInt32).toInt8.toInt32))), (.int (nar .byte ((((av.toUInt64 >>> ((24 : Int32) &&& 0x3f).toInt64.toUInt64).toInt64).toInt32).toInt8.toInt32))), (.int (nar .byte ((((av.toUInt64 >>> ((32 : Int32) &&& 0x3f).toInt64.toUInt64).toInt64).toInt32).toInt8.toInt32))), (.int (nar .byte ((((av.toUInt64 >>> ((40 : Int32) &&& 0x3f).toInt64.toUInt64).toInt64).toInt32).toInt8.toInt32))), (.int (nar .byte ((((av.toUInt64 >>> ((48 : Int32) &&& 0x3f).toInt64.toUInt64).toInt64).toInt32).toInt8.toInt32))), (.int (nar .byte ((((av.toUInt64 >>> ((56 : Int32) &&& 0x3f).toInt64.toUInt64).toInt64).toInt32).toInt8.toInt32))), (.int (nar .byte ((cv.toInt32).toInt8.toInt32))), (.int (0 : Int32)), (.int (0 : Int32)), (.int (0 : Int32)), (.int (0 : Int32)), (.int (0 : Int32)), (.int (0 : Int32)), (.int (0 : Int32))] (.int (0 : Int32)) := Arv.set Ar_b76_94 q_b76_94 S_b76_94 M_b76_94 H_b76_94 G_b76_94 (fits_nar_byte _) W94 8 rfl (Nat.le_of_ble_eq_true rfl)
  have F94_0 := V94_b76
  have Zs94 : n0 ≤ h94.size := Nat.le_trans Zs92 (Keep.of_wr W94).1
  have K94 := K92.wr W94 (Or.inr sz_b76)
  have N94 := Fr.snoc X94 N92 g_b76
  have pre94 : ∀ t, Steps p.tables e below (T94.setTop (mkF m 82 #[.val (.long av), .second, .val (.long cv), .second, .val (.int fv), .val (.int lv), .unset, .unset, .unset, .unset, .unset, .unset, .unset, .unset, .unset, .unset] [(.ref b76)])) t → Steps p.tables e below (s₁.setTop (entryFrame m #[(.long av), (.long cv), (.int fv), (.int lv)] maxLocals)) t := fun t kt => pre93 _ (st94 t kt)
  have pre95 : ∀ t, Steps p.tables e below (T94.setTop (mkF m 91 #[.val (.long av), .second, .val (.long cv), .second, .val (.int fv), .val (.int lv), .unset, .unset, .unset, .unset, .unset, .unset, .unset, .unset, .unset, .unset] [(.int ((((cv.toUInt64 >>> ((8 : Int32) &&& 0x3f).toInt64.toUInt64).toInt64).toInt32).toInt8.toInt32)), (.int (9 : Int32)), (.ref b76), (.ref b76)])) t → Steps p.tables e below (s₁.setTop (entryFrame m #[(.long av), (.long cv), (.int fv), (.int lv)] maxLocals)) t := fun t kt => by
    refine pre94 _ ?_
    show Steps p.tables e below (T94.setTop (mkF m 82 #[.val (.long av), .second, .val (.long cv), .second, .val (.int fv), .val (.int lv), .unset, .unset, .unset, .unset, .unset, .unset, .unset, .unset, .unset, .unset] [(.ref b76)])) _
    refine XS.dup X94.here hx rfl (hb hby at_82) rfl rfl ?_
    show Steps p.tables e below (T94.setTop (mkF m 83 #[.val (.long av), .second, .val (.long cv), .second, .val (.int fv), .val (.int lv), .unset, .unset, .unset, .unset, .unset, .unset, .unset, .unset, .unset, .unset] [(.ref b76), (.ref b76)])) _
    refine XS.bipush X94.here hx rfl (hb hby at_83) ?_
    show Steps p.tables e below (T94.setTop (mkF m 85 #[.val (.long av), .second, .val (.long cv), .second, .val (.int fv), .val (.int lv), .unset, .unset, .unset, .unset, .unset, .unset, .unset, .unset, .unset, .unset] [(.int (9 : Int32)), (.ref b76), (.ref b76)])) _
    refine XS.lloadN X94.here hx rfl (hb hby at_85) rfl ?_
    show Steps p.tables e below (T94.setTop (mkF m 86 #[.val (.long av), .second, .val (.long cv), .second, .val (.int fv), .val (.int lv), .unset, .unset, .unset, .unset, .unset, .unset, .unset, .unset, .unset, .unset] [(.long cv), (.int (9 : Int32)), (.ref b76), (.ref b76)])) _
    refine XS.bipush X94.here hx rfl (hb hby at_86) ?_
    show Steps p.tables e below (T94.setTop (mkF m 88 #[.val (.long av), .second, .val (.long cv), .second, .val (.int fv), .val (.int lv), .unset, .unset, .unset, .unset, .unset, .unset, .unset, .unset, .unset, .unset] [(.int (8 : Int32)), (.long cv), (.int (9 : Int32)), (.ref b76), (.ref b76)])) _
    refine XS.lushr X94.here hx rfl (hb hby at_88) rfl ?_
    show Steps p.tables e below (T94.setTop (mkF m 89 #[.val (.long av), .second, .val (.long cv), .second, .val (.int fv), .val (.int lv), .unset, .unset, .unset, .unset, .unset, .unset, .unset, .unset, .unset, .unset] [(.long ((cv.toUInt64 >>> ((8 : Int32) &&& 0x3f).toInt64.toUInt64).toInt64)), (.int (9 : Int32)), (.ref b76), (.ref b76)])) _
    refine XS.l2i X94.here hx rfl (hb hby at_89) rfl ?_
    show Steps p.tables e below (T94.setTop (mkF m 90 #[.val (.long av), .second, .val (.long cv), .second, .val (.int fv), .val (.int lv), .unset, .unset, .unset, .unset, .unset, .unset, .unset, .unset, .unset, .unset] [(.int (((cv.toUInt64 >>> ((8 : Int32) &&& 0x3f).toInt64.toUInt64).toInt64).toInt32)), (.int (9 : Int32)), (.ref b76), (.ref b76)])) _
    refine XS.i2b X94.here hx rfl (hb hby at_90) rfl ?_
    show Steps p.tables e below (T94.setTop (mkF m 91 #[.val (.long av), .second, .val (.long cv), .second, .val (.int fv), .val (.int lv), .unset, .unset, .unset, .unset, .unset, .unset, .unset, .unset, .unset, .unset] [(.int ((((cv.toUInt64 >>> ((8 : Int32) &&& 0x3f).toInt64.toUInt64).toInt64).toInt32).toInt8.toInt32)), (.int (9 : Int32)), (.ref b76), (.ref b76)])) _
    exact kt
  have Vo_b76_96 := F94_0
  obtain ⟨cl_b76_96, Ar_b76_96, q_b76_96, S_b76_96, M_b76_96, H_b76_96, G_b76_96⟩ := Vo_b76_96
  have hin96 : ¬ ((9 : Int32) < 0 ∨ cl_b76_96.slots.size ≤ ((9 : Int32)).toNatClampNeg) := inb_of S_b76_96 ⟨by decide, by decide⟩
  obtain ⟨T96, h96, X96, e96, W96, st96⟩ := stB X94 hx hZ e94 Ar_b76_96 (j := (9 : Int32)) hin96 (g := (mkF m 91 #[.val (.long av), .second, .val (.long cv), .second, .val (.int fv), .val (.int lv), .unset, .unset, .unset, .unset, .unset, .unset, .unset, .unset, .unset, .unset] [(.int ((((cv.toUInt64 >>> ((8 : Int32) &&& 0x3f).toInt64.toUInt64).toInt64).toInt32).toInt8.toInt32)), (.int (9 : Int32)), (.ref b76), (.ref b76)])) rfl rfl (hb hby at_91)
  have V96_b76 : Arv Z h96 b76 k76 .byte (16 : Int32) [(.int (nar .byte ((av.toInt32).toInt8.toInt32))), (.int (nar .byte ((((av.toUInt64 >>> ((8 : Int32) &&& 0x3f).toInt64.toUInt64).toInt64).toInt32).toInt8.toInt32))), (.int (nar .byte ((((av.toUInt64 >>> ((16 : Int32) &&& 0x3f).toInt64.toUInt64).toInt64).toInt32).toInt8.toInt32))), (.int (nar .byte ((((av.toUInt64 >>> ((24 : Int32) &&& 0x3f).toInt64.toUInt64).toInt64).toInt32).toInt8.toInt32))), (.int (nar .byte ((((av.toUInt64 >>> ((32 : Int32) &&& 0x3f).toInt64.toUInt64).toInt64).toInt32).toInt8.toInt32))), (.int (nar .byte ((((av.toUInt64 >>> ((40 : Int32) &&& 0x3f).toInt64.toUInt64).toInt64).toInt32).toInt8.toInt32))), (.int (nar .byte ((((av.toUInt64 >>> ((48 : Int32) &&& 0x3f).toInt64.toUInt64).toInt64).toInt32).toInt8.toInt32))), (.int (nar .byte ((((av.toUInt64 >>> ((56 : Int32) &&& 0x3f).toInt64.toUInt64).toInt64).toInt32).toInt8.toInt32))), (.int (nar .byte ((cv.toInt32).toInt8.toInt32))), (.int (nar .byte ((((cv.toUInt64 >>> ((8 : Int32) &&& 0x3f).toInt64.toUInt64).toInt64).toInt32).toInt8.toInt32))), (.int (0 : Int32)), (.int (0 : Int32)), (.int (0 : Int32)), (.int (0 : Int32)), (.int (0 : Int32)), (.int (0 : Int32))] (.int (0 : Int32)) := Arv.set Ar_b76_96 q_b76_96 S_b76_96 M_b76_96 H_b76_96 G_b76_96 (fits_nar_byte _) W96 9 rfl (Nat.le_of_ble_eq_true rfl)
  have F96_0 := V96_b76
  have Zs96 : n0 ≤ h96.size := Nat.le_trans Zs94 (Keep.of_wr W96).1
  have K96 := K94.wr W96 (Or.inr sz_b76)
  have N96 := Fr.snoc X96 N94 g_b76
  have pre96 : ∀ t, Steps p.tables e below (T96.setTop (mkF m 92 #[.val (.long av), .second, .val (.long cv), .second, .val (.int fv), .val (.int lv), .unset, .unset, .unset, .unset, .unset, .unset, .unset, .unset, .unset, .unset] [(.ref b76)])) t → Steps p.tables e below (s₁.setTop (entryFrame m #[(.long av), (.long cv), (.int fv), (.int lv)] maxLocals)) t := fun t kt => pre95 _ (st96 t kt)
  have pre97 : ∀ t, Steps p.tables e below (T96.setTop (mkF m 101 #[.val (.long av), .second, .val (.long cv), .second, .val (.int fv), .val (.int lv), .unset, .unset, .unset, .unset, .unset, .unset, .unset, .unset, .unset, .unset] [(.int ((((cv.toUInt64 >>> ((16 : Int32) &&& 0x3f).toInt64.toUInt64).toInt64).toInt32).toInt8.toInt32)), (.int (10 : Int32)), (.ref b76), (.ref b76)])) t → Steps p.tables e below (s₁.setTop (entryFrame m #[(.long av), (.long cv), (.int fv), (.int lv)] maxLocals)) t := fun t kt => by
    refine pre96 _ ?_
    show Steps p.tables e below (T96.setTop (mkF m 92 #[.val (.long av), .second, .val (.long cv), .second, .val (.int fv), .val (.int lv), .unset, .unset, .unset, .unset, .unset, .unset, .unset, .unset, .unset, .unset] [(.ref b76)])) _
    refine XS.dup X96.here hx rfl (hb hby at_92) rfl rfl ?_
    show Steps p.tables e below (T96.setTop (mkF m 93 #[.val (.long av), .second, .val (.long cv), .second, .val (.int fv), .val (.int lv), .unset, .unset, .unset, .unset, .unset, .unset, .unset, .unset, .unset, .unset] [(.ref b76), (.ref b76)])) _
    refine XS.bipush X96.here hx rfl (hb hby at_93) ?_
    show Steps p.tables e below (T96.setTop (mkF m 95 #[.val (.long av), .second, .val (.long cv), .second, .val (.int fv), .val (.int lv), .unset, .unset, .unset, .unset, .unset, .unset, .unset, .unset, .unset, .unset] [(.int (10 : Int32)), (.ref b76), (.ref b76)])) _
    refine XS.lloadN X96.here hx rfl (hb hby at_95) rfl ?_
    show Steps p.tables e below (T96.setTop (mkF m 96 #[.val (.long av), .second, .val (.long cv), .second, .val (.int fv), .val (.int lv), .unset, .unset, .unset, .unset, .unset, .unset, .unset, .unset, .unset, .unset] [(.long cv), (.int (10 : Int32)), (.ref b76), (.ref b76)])) _
    refine XS.bipush X96.here hx rfl (hb hby at_96) ?_
    show Steps p.tables e below (T96.setTop (mkF m 98 #[.val (.long av), .second, .val (.long cv), .second, .val (.int fv), .val (.int lv), .unset, .unset, .unset, .unset, .unset, .unset, .unset, .unset, .unset, .unset] [(.int (16 : Int32)), (.long cv), (.int (10 : Int32)), (.ref b76), (.ref b76)])) _
    refine XS.lushr X96.here hx rfl (hb hby at_98) rfl ?_
    show Steps p.tables e below (T96.setTop (mkF m 99 #[.val (.long av), .second, .val (.long cv), .second, .val (.int fv), .val (.int lv), .unset, .unset, .unset, .unset, .unset, .unset, .unset, .unset, .unset, .unset] [(.long ((cv.toUInt64 >>> ((16 : Int32) &&& 0x3f).toInt64.toUInt64).toInt64)), (.int (10 : Int32)), (.ref b76), (.ref b76)])) _
    refine XS.l2i X96.here hx rfl (hb hby at_99) rfl ?_
    show Steps p.tables e below (T96.setTop (mkF m 100 #[.val (.long av), .second, .val (.long cv), .second, .val (.int fv), .val (.int lv), .unset, .unset, .unset, .unset, .unset, .unset, .unset, .unset, .unset, .unset] [(.int (((cv.toUInt64 >>> ((16 : Int32) &&& 0x3f).toInt64.toUInt64).toInt64).toInt32)), (.int (10 : Int32)), (.ref b76), (.ref b76)])) _
    refine XS.i2b X96.here hx rfl (hb hby at_100) rfl ?_
    show Steps p.tables e below (T96.setTop (mkF m 101 #[.val (.long av), .second, .val (.long cv), .second, .val (.int fv), .val (.int lv), .unset, .unset, .unset, .unset, .unset, .unset, .unset, .unset, .unset, .unset] [(.int ((((cv.toUInt64 >>> ((16 : Int32) &&& 0x3f).toInt64.toUInt64).toInt64).toInt32).toInt8.toInt32)), (.int (10 : Int32)), (.ref b76), (.ref b76)])) _
    exact kt
  have Vo_b76_98 := F96_0
  obtain ⟨cl_b76_98, Ar_b76_98, q_b76_98, S_b76_98, M_b76_98, H_b76_98, G_b76_98⟩ := Vo_b76_98
  have hin98 : ¬ ((10 : Int32) < 0 ∨ cl_b76_98.slots.size ≤ ((10 : Int32)).toNatClampNeg) := inb_of S_b76_98 ⟨by decide, by decide⟩
  obtain ⟨T98, h98, X98, e98, W98, st98⟩ := stB X96 hx hZ e96 Ar_b76_98 (j := (10 : Int32)) hin98 (g := (mkF m 101 #[.val (.long av), .second, .val (.long cv), .second, .val (.int fv), .val (.int lv), .unset, .unset, .unset, .unset, .unset, .unset, .unset, .unset, .unset, .unset] [(.int ((((cv.toUInt64 >>> ((16 : Int32) &&& 0x3f).toInt64.toUInt64).toInt64).toInt32).toInt8.toInt32)), (.int (10 : Int32)), (.ref b76), (.ref b76)])) rfl rfl (hb hby at_101)
  have V98_b76 : Arv Z h98 b76 k76 .byte (16 : Int32) [(.int (nar .byte ((av.toInt32).toInt8.toInt32))), (.int (nar .byte ((((av.toUInt64 >>> ((8 : Int32) &&& 0x3f).toInt64.toUInt64).toInt64).toInt32).toInt8.toInt32))), (.int (nar .byte ((((av.toUInt64 >>> ((16 : Int32) &&& 0x3f).toInt64.toUInt64).toInt64).toInt32).toInt8.toInt32))), (.int (nar .byte ((((av.toUInt64 >>> ((24 : Int32) &&& 0x3f).toInt64.toUInt64).toInt64).toInt32).toInt8.toInt32))), (.int (nar .byte ((((av.toUInt64 >>> ((32 : Int32) &&& 0x3f).toInt64.toUInt64).toInt64).toInt32).toInt8.toInt32))), (.int (nar .byte ((((av.toUInt64 >>> ((40 : Int32) &&& 0x3f).toInt64.toUInt64).toInt64).toInt32).toInt8.toInt32))), (.int (nar .byte ((((av.toUInt64 >>> ((48 : Int32) &&& 0x3f).toInt64.toUInt64).toInt64).toInt32).toInt8.toInt32))), (.int (nar .byte ((((av.toUInt64 >>> ((56 : Int32) &&& 0x3f).toInt64.toUInt64).toInt64).toInt32).toInt8.toInt32))), (.int (nar .byte ((cv.toInt32).toInt8.toInt32))), (.int (nar .byte ((((cv.toUInt64 >>> ((8 : Int32) &&& 0x3f).toInt64.toUInt64).toInt64).toInt32).toInt8.toInt32))), (.int (nar .byte ((((cv.toUInt64 >>> ((16 : Int32) &&& 0x3f).toInt64.toUInt64).toInt64).toInt32).toInt8.toInt32))), (.int (0 : Int32)), (.int (0 : Int32)), (.int (0 : Int32)), (.int (0 : Int32)), (.int (0 : Int32))] (.int (0 : Int32)) := Arv.set Ar_b76_98 q_b76_98 S_b76_98 M_b76_98 H_b76_98 G_b76_98 (fits_nar_byte _) W98 10 rfl (Nat.le_of_ble_eq_true rfl)
  have F98_0 := V98_b76
  have Zs98 : n0 ≤ h98.size := Nat.le_trans Zs96 (Keep.of_wr W98).1
  have K98 := K96.wr W98 (Or.inr sz_b76)
  have N98 := Fr.snoc X98 N96 g_b76
  have pre98 : ∀ t, Steps p.tables e below (T98.setTop (mkF m 102 #[.val (.long av), .second, .val (.long cv), .second, .val (.int fv), .val (.int lv), .unset, .unset, .unset, .unset, .unset, .unset, .unset, .unset, .unset, .unset] [(.ref b76)])) t → Steps p.tables e below (s₁.setTop (entryFrame m #[(.long av), (.long cv), (.int fv), (.int lv)] maxLocals)) t := fun t kt => pre97 _ (st98 t kt)
  have pre99 : ∀ t, Steps p.tables e below (T98.setTop (mkF m 111 #[.val (.long av), .second, .val (.long cv), .second, .val (.int fv), .val (.int lv), .unset, .unset, .unset, .unset, .unset, .unset, .unset, .unset, .unset, .unset] [(.int ((((cv.toUInt64 >>> ((24 : Int32) &&& 0x3f).toInt64.toUInt64).toInt64).toInt32).toInt8.toInt32)), (.int (11 : Int32)), (.ref b76), (.ref b76)])) t → Steps p.tables e below (s₁.setTop (entryFrame m #[(.long av), (.long cv), (.int fv), (.int lv)] maxLocals)) t := fun t kt => by
    refine pre98 _ ?_
    show Steps p.tables e below (T98.setTop (mkF m 102 #[.val (.long av), .second, .val (.long cv), .second, .val (.int fv), .val (.int lv), .unset, .unset, .unset, .unset, .unset, .unset, .unset, .unset, .unset, .unset] [(.ref b76)])) _
    refine XS.dup X98.here hx rfl (hb hby at_102) rfl rfl ?_
    show Steps p.tables e below (T98.setTop (mkF m 103 #[.val (.long av), .second, .val (.long cv), .second, .val (.int fv), .val (.int lv), .unset, .unset, .unset, .unset, .unset, .unset, .unset, .unset, .unset, .unset] [(.ref b76), (.ref b76)])) _
    refine XS.bipush X98.here hx rfl (hb hby at_103) ?_
    show Steps p.tables e below (T98.setTop (mkF m 105 #[.val (.long av), .second, .val (.long cv), .second, .val (.int fv), .val (.int lv), .unset, .unset, .unset, .unset, .unset, .unset, .unset, .unset, .unset, .unset] [(.int (11 : Int32)), (.ref b76), (.ref b76)])) _
    refine XS.lloadN X98.here hx rfl (hb hby at_105) rfl ?_
    show Steps p.tables e below (T98.setTop (mkF m 106 #[.val (.long av), .second, .val (.long cv), .second, .val (.int fv), .val (.int lv), .unset, .unset, .unset, .unset, .unset, .unset, .unset, .unset, .unset, .unset] [(.long cv), (.int (11 : Int32)), (.ref b76), (.ref b76)])) _
    refine XS.bipush X98.here hx rfl (hb hby at_106) ?_
    show Steps p.tables e below (T98.setTop (mkF m 108 #[.val (.long av), .second, .val (.long cv), .second, .val (.int fv), .val (.int lv), .unset, .unset, .unset, .unset, .unset, .unset, .unset, .unset, .unset, .unset] [(.int (24 : Int32)), (.long cv), (.int (11 : Int32)), (.ref b76), (.ref b76)])) _
    refine XS.lushr X98.here hx rfl (hb hby at_108) rfl ?_
    show Steps p.tables e below (T98.setTop (mkF m 109 #[.val (.long av), .second, .val (.long cv), .second, .val (.int fv), .val (.int lv), .unset, .unset, .unset, .unset, .unset, .unset, .unset, .unset, .unset, .unset] [(.long ((cv.toUInt64 >>> ((24 : Int32) &&& 0x3f).toInt64.toUInt64).toInt64)), (.int (11 : Int32)), (.ref b76), (.ref b76)])) _
    refine XS.l2i X98.here hx rfl (hb hby at_109) rfl ?_
    show Steps p.tables e below (T98.setTop (mkF m 110 #[.val (.long av), .second, .val (.long cv), .second, .val (.int fv), .val (.int lv), .unset, .unset, .unset, .unset, .unset, .unset, .unset, .unset, .unset, .unset] [(.int (((cv.toUInt64 >>> ((24 : Int32) &&& 0x3f).toInt64.toUInt64).toInt64).toInt32)), (.int (11 : Int32)), (.ref b76), (.ref b76)])) _
    refine XS.i2b X98.here hx rfl (hb hby at_110) rfl ?_
    show Steps p.tables e below (T98.setTop (mkF m 111 #[.val (.long av), .second, .val (.long cv), .second, .val (.int fv), .val (.int lv), .unset, .unset, .unset, .unset, .unset, .unset, .unset, .unset, .unset, .unset] [(.int ((((cv.toUInt64 >>> ((24 : Int32) &&& 0x3f).toInt64.toUInt64).toInt64).toInt32).toInt8.toInt32)), (.int (11 : Int32)), (.ref b76), (.ref b76)])) _
    exact kt
  have Vo_b76_100 := F98_0
  obtain ⟨cl_b76_100, Ar_b76_100, q_b76_100, S_b76_100, M_b76_100, H_b76_100, G_b76_100⟩ := Vo_b76_100
  have hin100 : ¬ ((11 : Int32) < 0 ∨ cl_b76_100.slots.size ≤ ((11 : Int32)).toNatClampNeg) := inb_of S_b76_100 ⟨by decide, by decide⟩
  obtain ⟨T100, h100, X100, e100, W100, st100⟩ := stB X98 hx hZ e98 Ar_b76_100 (j := (11 : Int32)) hin100 (g := (mkF m 111 #[.val (.long av), .second, .val (.long cv), .second, .val (.int fv), .val (.int lv), .unset, .unset, .unset, .unset, .unset, .unset, .unset, .unset, .unset, .unset] [(.int ((((cv.toUInt64 >>> ((24 : Int32) &&& 0x3f).toInt64.toUInt64).toInt64).toInt32).toInt8.toInt32)), (.int (11 : Int32)), (.ref b76), (.ref b76)])) rfl rfl (hb hby at_111)
  have V100_b76 : Arv Z h100 b76 k76 .byte (16 : Int32) [(.int (nar .byte ((av.toInt32).toInt8.toInt32))), (.int (nar .byte ((((av.toUInt64 >>> ((8 : Int32) &&& 0x3f).toInt64.toUInt64).toInt64).toInt32).toInt8.toInt32))), (.int (nar .byte ((((av.toUInt64 >>> ((16 : Int32) &&& 0x3f).toInt64.toUInt64).toInt64).toInt32).toInt8.toInt32))), (.int (nar .byte ((((av.toUInt64 >>> ((24 : Int32) &&& 0x3f).toInt64.toUInt64).toInt64).toInt32).toInt8.toInt32))), (.int (nar .byte ((((av.toUInt64 >>> ((32 : Int32) &&& 0x3f).toInt64.toUInt64).toInt64).toInt32).toInt8.toInt32))), (.int (nar .byte ((((av.toUInt64 >>> ((40 : Int32) &&& 0x3f).toInt64.toUInt64).toInt64).toInt32).toInt8.toInt32))), (.int (nar .byte ((((av.toUInt64 >>> ((48 : Int32) &&& 0x3f).toInt64.toUInt64).toInt64).toInt32).toInt8.toInt32))), (.int (nar .byte ((((av.toUInt64 >>> ((56 : Int32) &&& 0x3f).toInt64.toUInt64).toInt64).toInt32).toInt8.toInt32))), (.int (nar .byte ((cv.toInt32).toInt8.toInt32))), (.int (nar .byte ((((cv.toUInt64 >>> ((8 : Int32) &&& 0x3f).toInt64.toUInt64).toInt64).toInt32).toInt8.toInt32))), (.int (nar .byte ((((cv.toUInt64 >>> ((16 : Int32) &&& 0x3f).toInt64.toUInt64).toInt64).toInt32).toInt8.toInt32))), (.int (nar .byte ((((cv.toUInt64 >>> ((24 : Int32) &&& 0x3f).toInt64.toUInt64).toInt64).toInt32).toInt8.toInt32))), (.int (0 : Int32)), (.int (0 : Int32)), (.int (0 : Int32)), (.int (0 : Int32))] (.int (0 : Int32)) := Arv.set Ar_b76_100 q_b76_100 S_b76_100 M_b76_100 H_b76_100 G_b76_100 (fits_nar_byte _) W100 11 rfl (Nat.le_of_ble_eq_true rfl)
  have F100_0 := V100_b76
  have Zs100 : n0 ≤ h100.size := Nat.le_trans Zs98 (Keep.of_wr W100).1
  have K100 := K98.wr W100 (Or.inr sz_b76)
  have N100 := Fr.snoc X100 N98 g_b76
  have pre100 : ∀ t, Steps p.tables e below (T100.setTop (mkF m 112 #[.val (.long av), .second, .val (.long cv), .second, .val (.int fv), .val (.int lv), .unset, .unset, .unset, .unset, .unset, .unset, .unset, .unset, .unset, .unset] [(.ref b76)])) t → Steps p.tables e below (s₁.setTop (entryFrame m #[(.long av), (.long cv), (.int fv), (.int lv)] maxLocals)) t := fun t kt => pre99 _ (st100 t kt)
  have pre101 : ∀ t, Steps p.tables e below (T100.setTop (mkF m 121 #[.val (.long av), .second, .val (.long cv), .second, .val (.int fv), .val (.int lv), .unset, .unset, .unset, .unset, .unset, .unset, .unset, .unset, .unset, .unset] [(.int ((((cv.toUInt64 >>> ((32 : Int32) &&& 0x3f).toInt64.toUInt64).toInt64).toInt32).toInt8.toInt32)), (.int (12 : Int32)), (.ref b76), (.ref b76)])) t → Steps p.tables e below (s₁.setTop (entryFrame m #[(.long av), (.long cv), (.int fv), (.int lv)] maxLocals)) t := fun t kt => by
    refine pre100 _ ?_
    show Steps p.tables e below (T100.setTop (mkF m 112 #[.val (.long av), .second, .val (.long cv), .second, .val (.int fv), .val (.int lv), .unset, .unset, .unset, .unset, .unset, .unset, .unset, .unset, .unset, .unset] [(.ref b76)])) _
    refine XS.dup X100.here hx rfl (hb hby at_112) rfl rfl ?_
    show Steps p.tables e below (T100.setTop (mkF m 113 #[.val (.long av), .second, .val (.long cv), .second, .val (.int fv), .val (.int lv), .unset, .unset, .unset, .unset, .unset, .unset, .unset, .unset, .unset, .unset] [(.ref b76), (.ref b76)])) _
    refine XS.bipush X100.here hx rfl (hb hby at_113) ?_
    show Steps p.tables e below (T100.setTop (mkF m 115 #[.val (.long av), .second, .val (.long cv), .second, .val (.int fv), .val (.int lv), .unset, .unset, .unset, .unset, .unset, .unset, .unset, .unset, .unset, .unset] [(.int (12 : Int32)), (.ref b76), (.ref b76)])) _
    refine XS.lloadN X100.here hx rfl (hb hby at_115) rfl ?_
    show Steps p.tables e below (T100.setTop (mkF m 116 #[.val (.long av), .second, .val (.long cv), .second, .val (.int fv), .val (.int lv), .unset, .unset, .unset, .unset, .unset, .unset, .unset, .unset, .unset, .unset] [(.long cv), (.int (12 : Int32)), (.ref b76), (.ref b76)])) _
    refine XS.bipush X100.here hx rfl (hb hby at_116) ?_
    show Steps p.tables e below (T100.setTop (mkF m 118 #[.val (.long av), .second, .val (.long cv), .second, .val (.int fv), .val (.int lv), .unset, .unset, .unset, .unset, .unset, .unset, .unset, .unset, .unset, .unset] [(.int (32 : Int32)), (.long cv), (.int (12 : Int32)), (.ref b76), (.ref b76)])) _
    refine XS.lushr X100.here hx rfl (hb hby at_118) rfl ?_
    show Steps p.tables e below (T100.setTop (mkF m 119 #[.val (.long av), .second, .val (.long cv), .second, .val (.int fv), .val (.int lv), .unset, .unset, .unset, .unset, .unset, .unset, .unset, .unset, .unset, .unset] [(.long ((cv.toUInt64 >>> ((32 : Int32) &&& 0x3f).toInt64.toUInt64).toInt64)), (.int (12 : Int32)), (.ref b76), (.ref b76)])) _
    refine XS.l2i X100.here hx rfl (hb hby at_119) rfl ?_
    show Steps p.tables e below (T100.setTop (mkF m 120 #[.val (.long av), .second, .val (.long cv), .second, .val (.int fv), .val (.int lv), .unset, .unset, .unset, .unset, .unset, .unset, .unset, .unset, .unset, .unset] [(.int (((cv.toUInt64 >>> ((32 : Int32) &&& 0x3f).toInt64.toUInt64).toInt64).toInt32)), (.int (12 : Int32)), (.ref b76), (.ref b76)])) _
    refine XS.i2b X100.here hx rfl (hb hby at_120) rfl ?_
    show Steps p.tables e below (T100.setTop (mkF m 121 #[.val (.long av), .second, .val (.long cv), .second, .val (.int fv), .val (.int lv), .unset, .unset, .unset, .unset, .unset, .unset, .unset, .unset, .unset, .unset] [(.int ((((cv.toUInt64 >>> ((32 : Int32) &&& 0x3f).toInt64.toUInt64).toInt64).toInt32).toInt8.toInt32)), (.int (12 : Int32)), (.ref b76), (.ref b76)])) _
    exact kt
  have Vo_b76_102 := F100_0
  obtain ⟨cl_b76_102, Ar_b76_102, q_b76_102, S_b76_102, M_b76_102, H_b76_102, G_b76_102⟩ := Vo_b76_102
  have hin102 : ¬ ((12 : Int32) < 0 ∨ cl_b76_102.slots.size ≤ ((12 : Int32)).toNatClampNeg) := inb_of S_b76_102 ⟨by decide, by decide⟩
  obtain ⟨T102, h102, X102, e102, W102, st102⟩ := stB X100 hx hZ e100 Ar_b76_102 (j := (12 : Int32)) hin102 (g := (mkF m 121 #[.val (.long av), .second, .val (.long cv), .second, .val (.int fv), .val (.int lv), .unset, .unset, .unset, .unset, .unset, .unset, .unset, .unset, .unset, .unset] [(.int ((((cv.toUInt64 >>> ((32 : Int32) &&& 0x3f).toInt64.toUInt64).toInt64).toInt32).toInt8.toInt32)), (.int (12 : Int32)), (.ref b76), (.ref b76)])) rfl rfl (hb hby at_121)
  have V102_b76 : Arv Z h102 b76 k76 .byte (16 : Int32) [(.int (nar .byte ((av.toInt32).toInt8.toInt32))), (.int (nar .byte ((((av.toUInt64 >>> ((8 : Int32) &&& 0x3f).toInt64.toUInt64).toInt64).toInt32).toInt8.toInt32))), (.int (nar .byte ((((av.toUInt64 >>> ((16 : Int32) &&& 0x3f).toInt64.toUInt64).toInt64).toInt32).toInt8.toInt32))), (.int (nar .byte ((((av.toUInt64 >>> ((24 : Int32) &&& 0x3f).toInt64.toUInt64).toInt64).toInt32).toInt8.toInt32))), (.int (nar .byte ((((av.toUInt64 >>> ((32 : Int32) &&& 0x3f).toInt64.toUInt64).toInt64).toInt32).toInt8.toInt32))), (.int (nar .byte ((((av.toUInt64 >>> ((40 : Int32) &&& 0x3f).toInt64.toUInt64).toInt64).toInt32).toInt8.toInt32))), (.int (nar .byte ((((av.toUInt64 >>> ((48 : Int32) &&& 0x3f).toInt64.toUInt64).toInt64).toInt32).toInt8.toInt32))), (.int (nar .byte ((((av.toUInt64 >>> ((56 : Int32) &&& 0x3f).toInt64.toUInt64).toInt64).toInt32).toInt8.toInt32))), (.int (nar .byte ((cv.toInt32).toInt8.toInt32))), (.int (nar .byte ((((cv.toUInt64 >>> ((8 : Int32) &&& 0x3f).toInt64.toUInt64).toInt64).toInt32).toInt8.toInt32))), (.int (nar .byte ((((cv.toUInt64 >>> ((16 : Int32) &&& 0x3f).toInt64.toUInt64).toInt64).toInt32).toInt8.toInt32))), (.int (nar .byte ((((cv.toUInt64 >>> ((24 : Int32) &&& 0x3f).toInt64.toUInt64).toInt64).toInt32).toInt8.toInt32))), (.int (nar .byte ((((cv.toUInt64 >>> ((32 : Int32) &&& 0x3f).toInt64.toUInt64).toInt64).toInt32).toInt8.toInt32))), (.int (0 : Int32)), (.int (0 : Int32)), (.int (0 : Int32))] (.int (0 : Int32)) := Arv.set Ar_b76_102 q_b76_102 S_b76_102 M_b76_102 H_b76_102 G_b76_102 (fits_nar_byte _) W102 12 rfl (Nat.le_of_ble_eq_true rfl)
  have F102_0 := V102_b76
  have Zs102 : n0 ≤ h102.size := Nat.le_trans Zs100 (Keep.of_wr W102).1
  have K102 := K100.wr W102 (Or.inr sz_b76)
  have N102 := Fr.snoc X102 N100 g_b76
  have pre102 : ∀ t, Steps p.tables e below (T102.setTop (mkF m 122 #[.val (.long av), .second, .val (.long cv), .second, .val (.int fv), .val (.int lv), .unset, .unset, .unset, .unset, .unset, .unset, .unset, .unset, .unset, .unset] [(.ref b76)])) t → Steps p.tables e below (s₁.setTop (entryFrame m #[(.long av), (.long cv), (.int fv), (.int lv)] maxLocals)) t := fun t kt => pre101 _ (st102 t kt)
  have pre103 : ∀ t, Steps p.tables e below (T102.setTop (mkF m 131 #[.val (.long av), .second, .val (.long cv), .second, .val (.int fv), .val (.int lv), .unset, .unset, .unset, .unset, .unset, .unset, .unset, .unset, .unset, .unset] [(.int ((((cv.toUInt64 >>> ((40 : Int32) &&& 0x3f).toInt64.toUInt64).toInt64).toInt32).toInt8.toInt32)), (.int (13 : Int32)), (.ref b76), (.ref b76)])) t → Steps p.tables e below (s₁.setTop (entryFrame m #[(.long av), (.long cv), (.int fv), (.int lv)] maxLocals)) t := fun t kt => by
    refine pre102 _ ?_
    show Steps p.tables e below (T102.setTop (mkF m 122 #[.val (.long av), .second, .val (.long cv), .second, .val (.int fv), .val (.int lv), .unset, .unset, .unset, .unset, .unset, .unset, .unset, .unset, .unset, .unset] [(.ref b76)])) _
    refine XS.dup X102.here hx rfl (hb hby at_122) rfl rfl ?_
    show Steps p.tables e below (T102.setTop (mkF m 123 #[.val (.long av), .second, .val (.long cv), .second, .val (.int fv), .val (.int lv), .unset, .unset, .unset, .unset, .unset, .unset, .unset, .unset, .unset, .unset] [(.ref b76), (.ref b76)])) _
    refine XS.bipush X102.here hx rfl (hb hby at_123) ?_
    show Steps p.tables e below (T102.setTop (mkF m 125 #[.val (.long av), .second, .val (.long cv), .second, .val (.int fv), .val (.int lv), .unset, .unset, .unset, .unset, .unset, .unset, .unset, .unset, .unset, .unset] [(.int (13 : Int32)), (.ref b76), (.ref b76)])) _
    refine XS.lloadN X102.here hx rfl (hb hby at_125) rfl ?_
    show Steps p.tables e below (T102.setTop (mkF m 126 #[.val (.long av), .second, .val (.long cv), .second, .val (.int fv), .val (.int lv), .unset, .unset, .unset, .unset, .unset, .unset, .unset, .unset, .unset, .unset] [(.long cv), (.int (13 : Int32)), (.ref b76), (.ref b76)])) _
    refine XS.bipush X102.here hx rfl (hb hby at_126) ?_
    show Steps p.tables e below (T102.setTop (mkF m 128 #[.val (.long av), .second, .val (.long cv), .second, .val (.int fv), .val (.int lv), .unset, .unset, .unset, .unset, .unset, .unset, .unset, .unset, .unset, .unset] [(.int (40 : Int32)), (.long cv), (.int (13 : Int32)), (.ref b76), (.ref b76)])) _
    refine XS.lushr X102.here hx rfl (hb hby at_128) rfl ?_
    show Steps p.tables e below (T102.setTop (mkF m 129 #[.val (.long av), .second, .val (.long cv), .second, .val (.int fv), .val (.int lv), .unset, .unset, .unset, .unset, .unset, .unset, .unset, .unset, .unset, .unset] [(.long ((cv.toUInt64 >>> ((40 : Int32) &&& 0x3f).toInt64.toUInt64).toInt64)), (.int (13 : Int32)), (.ref b76), (.ref b76)])) _
    refine XS.l2i X102.here hx rfl (hb hby at_129) rfl ?_
    show Steps p.tables e below (T102.setTop (mkF m 130 #[.val (.long av), .second, .val (.long cv), .second, .val (.int fv), .val (.int lv), .unset, .unset, .unset, .unset, .unset, .unset, .unset, .unset, .unset, .unset] [(.int (((cv.toUInt64 >>> ((40 : Int32) &&& 0x3f).toInt64.toUInt64).toInt64).toInt32)), (.int (13 : Int32)), (.ref b76), (.ref b76)])) _
    refine XS.i2b X102.here hx rfl (hb hby at_130) rfl ?_
    show Steps p.tables e below (T102.setTop (mkF m 131 #[.val (.long av), .second, .val (.long cv), .second, .val (.int fv), .val (.int lv), .unset, .unset, .unset, .unset, .unset, .unset, .unset, .unset, .unset, .unset] [(.int ((((cv.toUInt64 >>> ((40 : Int32) &&& 0x3f).toInt64.toUInt64).toInt64).toInt32).toInt8.toInt32)), (.int (13 : Int32)), (.ref b76), (.ref b76)])) _
    exact kt
  have Vo_b76_104 := F102_0
  obtain ⟨cl_b76_104, Ar_b76_104, q_b76_104, S_b76_104, M_b76_104, H_b76_104, G_b76_104⟩ := Vo_b76_104
  have hin104 : ¬ ((13 : Int32) < 0 ∨ cl_b76_104.slots.size ≤ ((13 : Int32)).toNatClampNeg) := inb_of S_b76_104 ⟨by decide, by decide⟩
  obtain ⟨T104, h104, X104, e104, W104, st104⟩ := stB X102 hx hZ e102 Ar_b76_104 (j := (13 : Int32)) hin104 (g := (mkF m 131 #[.val (.long av), .second, .val (.long cv), .second, .val (.int fv), .val (.int lv), .unset, .unset, .unset, .unset, .unset, .unset, .unset, .unset, .unset, .unset] [(.int ((((cv.toUInt64 >>> ((40 : Int32) &&& 0x3f).toInt64.toUInt64).toInt64).toInt32).toInt8.toInt32)), (.int (13 : Int32)), (.ref b76), (.ref b76)])) rfl rfl (hb hby at_131)
  have V104_b76 : Arv Z h104 b76 k76 .byte (16 : Int32) [(.int (nar .byte ((av.toInt32).toInt8.toInt32))), (.int (nar .byte ((((av.toUInt64 >>> ((8 : Int32) &&& 0x3f).toInt64.toUInt64).toInt64).toInt32).toInt8.toInt32))), (.int (nar .byte ((((av.toUInt64 >>> ((16 : Int32) &&& 0x3f).toInt64.toUInt64).toInt64).toInt32).toInt8.toInt32))), (.int (nar .byte ((((av.toUInt64 >>> ((24 : Int32) &&& 0x3f).toInt64.toUInt64).toInt64).toInt32).toInt8.toInt32))), (.int (nar .byte ((((av.toUInt64 >>> ((32 : Int32) &&& 0x3f).toInt64.toUInt64).toInt64).toInt32).toInt8.toInt32))), (.int (nar .byte ((((av.toUInt64 >>> ((40 : Int32) &&& 0x3f).toInt64.toUInt64).toInt64).toInt32).toInt8.toInt32))), (.int (nar .byte ((((av.toUInt64 >>> ((48 : Int32) &&& 0x3f).toInt64.toUInt64).toInt64).toInt32).toInt8.toInt32))), (.int (nar .byte ((((av.toUInt64 >>> ((56 : Int32) &&& 0x3f).toInt64.toUInt64).toInt64).toInt32).toInt8.toInt32))), (.int (nar .byte ((cv.toInt32).toInt8.toInt32))), (.int (nar .byte ((((cv.toUInt64 >>> ((8 : Int32) &&& 0x3f).toInt64.toUInt64).toInt64).toInt32).toInt8.toInt32))), (.int (nar .byte ((((cv.toUInt64 >>> ((16 : Int32) &&& 0x3f).toInt64.toUInt64).toInt64).toInt32).toInt8.toInt32))), (.int (nar .byte ((((cv.toUInt64 >>> ((24 : Int32) &&& 0x3f).toInt64.toUInt64).toInt64).toInt32).toInt8.toInt32))), (.int (nar .byte ((((cv.toUInt64 >>> ((32 : Int32) &&& 0x3f).toInt64.toUInt64).toInt64).toInt32).toInt8.toInt32))), (.int (nar .byte ((((cv.toUInt64 >>> ((40 : Int32) &&& 0x3f).toInt64.toUInt64).toInt64).toInt32).toInt8.toInt32))), (.int (0 : Int32)), (.int (0 : Int32))] (.int (0 : Int32)) := Arv.set Ar_b76_104 q_b76_104 S_b76_104 M_b76_104 H_b76_104 G_b76_104 (fits_nar_byte _) W104 13 rfl (Nat.le_of_ble_eq_true rfl)
  have F104_0 := V104_b76
  have Zs104 : n0 ≤ h104.size := Nat.le_trans Zs102 (Keep.of_wr W104).1
  have K104 := K102.wr W104 (Or.inr sz_b76)
  have N104 := Fr.snoc X104 N102 g_b76
  have pre104 : ∀ t, Steps p.tables e below (T104.setTop (mkF m 132 #[.val (.long av), .second, .val (.long cv), .second, .val (.int fv), .val (.int lv), .unset, .unset, .unset, .unset, .unset, .unset, .unset, .unset, .unset, .unset] [(.ref b76)])) t → Steps p.tables e below (s₁.setTop (entryFrame m #[(.long av), (.long cv), (.int fv), (.int lv)] maxLocals)) t := fun t kt => pre103 _ (st104 t kt)
  have pre105 : ∀ t, Steps p.tables e below (T104.setTop (mkF m 141 #[.val (.long av), .second, .val (.long cv), .second, .val (.int fv), .val (.int lv), .unset, .unset, .unset, .unset, .unset, .unset, .unset, .unset, .unset, .unset] [(.int ((((cv.toUInt64 >>> ((48 : Int32) &&& 0x3f).toInt64.toUInt64).toInt64).toInt32).toInt8.toInt32)), (.int (14 : Int32)), (.ref b76), (.ref b76)])) t → Steps p.tables e below (s₁.setTop (entryFrame m #[(.long av), (.long cv), (.int fv), (.int lv)] maxLocals)) t := fun t kt => by
    refine pre104 _ ?_
    show Steps p.tables e below (T104.setTop (mkF m 132 #[.val (.long av), .second, .val (.long cv), .second, .val (.int fv), .val (.int lv), .unset, .unset, .unset, .unset, .unset, .unset, .unset, .unset, .unset, .unset] [(.ref b76)])) _
    refine XS.dup X104.here hx rfl (hb hby at_132) rfl rfl ?_
    show Steps p.tables e below (T104.setTop (mkF m 133 #[.val (.long av), .second, .val (.long cv), .second, .val (.int fv), .val (.int lv), .unset, .unset, .unset, .unset, .unset, .unset, .unset, .unset, .unset, .unset] [(.ref b76), (.ref b76)])) _
    refine XS.bipush X104.here hx rfl (hb hby at_133) ?_
    show Steps p.tables e below (T104.setTop (mkF m 135 #[.val (.long av), .second, .val (.long cv), .second, .val (.int fv), .val (.int lv), .unset, .unset, .unset, .unset, .unset, .unset, .unset, .unset, .unset, .unset] [(.int (14 : Int32)), (.ref b76), (.ref b76)])) _
    refine XS.lloadN X104.here hx rfl (hb hby at_135) rfl ?_
    show Steps p.tables e below (T104.setTop (mkF m 136 #[.val (.long av), .second, .val (.long cv), .second, .val (.int fv), .val (.int lv), .unset, .unset, .unset, .unset, .unset, .unset, .unset, .unset, .unset, .unset] [(.long cv), (.int (14 : Int32)), (.ref b76), (.ref b76)])) _
    refine XS.bipush X104.here hx rfl (hb hby at_136) ?_
    show Steps p.tables e below (T104.setTop (mkF m 138 #[.val (.long av), .second, .val (.long cv), .second, .val (.int fv), .val (.int lv), .unset, .unset, .unset, .unset, .unset, .unset, .unset, .unset, .unset, .unset] [(.int (48 : Int32)), (.long cv), (.int (14 : Int32)), (.ref b76), (.ref b76)])) _
    refine XS.lushr X104.here hx rfl (hb hby at_138) rfl ?_
    show Steps p.tables e below (T104.setTop (mkF m 139 #[.val (.long av), .second, .val (.long cv), .second, .val (.int fv), .val (.int lv), .unset, .unset, .unset, .unset, .unset, .unset, .unset, .unset, .unset, .unset] [(.long ((cv.toUInt64 >>> ((48 : Int32) &&& 0x3f).toInt64.toUInt64).toInt64)), (.int (14 : Int32)), (.ref b76), (.ref b76)])) _
    refine XS.l2i X104.here hx rfl (hb hby at_139) rfl ?_
    show Steps p.tables e below (T104.setTop (mkF m 140 #[.val (.long av), .second, .val (.long cv), .second, .val (.int fv), .val (.int lv), .unset, .unset, .unset, .unset, .unset, .unset, .unset, .unset, .unset, .unset] [(.int (((cv.toUInt64 >>> ((48 : Int32) &&& 0x3f).toInt64.toUInt64).toInt64).toInt32)), (.int (14 : Int32)), (.ref b76), (.ref b76)])) _
    refine XS.i2b X104.here hx rfl (hb hby at_140) rfl ?_
    show Steps p.tables e below (T104.setTop (mkF m 141 #[.val (.long av), .second, .val (.long cv), .second, .val (.int fv), .val (.int lv), .unset, .unset, .unset, .unset, .unset, .unset, .unset, .unset, .unset, .unset] [(.int ((((cv.toUInt64 >>> ((48 : Int32) &&& 0x3f).toInt64.toUInt64).toInt64).toInt32).toInt8.toInt32)), (.int (14 : Int32)), (.ref b76), (.ref b76)])) _
    exact kt
  have Vo_b76_106 := F104_0
  obtain ⟨cl_b76_106, Ar_b76_106, q_b76_106, S_b76_106, M_b76_106, H_b76_106, G_b76_106⟩ := Vo_b76_106
  have hin106 : ¬ ((14 : Int32) < 0 ∨ cl_b76_106.slots.size ≤ ((14 : Int32)).toNatClampNeg) := inb_of S_b76_106 ⟨by decide, by decide⟩
  obtain ⟨T106, h106, X106, e106, W106, st106⟩ := stB X104 hx hZ e104 Ar_b76_106 (j := (14 : Int32)) hin106 (g := (mkF m 141 #[.val (.long av), .second, .val (.long cv), .second, .val (.int fv), .val (.int lv), .unset, .unset, .unset, .unset, .unset, .unset, .unset, .unset, .unset, .unset] [(.int ((((cv.toUInt64 >>> ((48 : Int32) &&& 0x3f).toInt64.toUInt64).toInt64).toInt32).toInt8.toInt32)), (.int (14 : Int32)), (.ref b76), (.ref b76)])) rfl rfl (hb hby at_141)
  have V106_b76 : Arv Z h106 b76 k76 .byte (16 : Int32) [(.int (nar .byte ((av.toInt32).toInt8.toInt32))), (.int (nar .byte ((((av.toUInt64 >>> ((8 : Int32) &&& 0x3f).toInt64.toUInt64).toInt64).toInt32).toInt8.toInt32))), (.int (nar .byte ((((av.toUInt64 >>> ((16 : Int32) &&& 0x3f).toInt64.toUInt64).toInt64).toInt32).toInt8.toInt32))), (.int (nar .byte ((((av.toUInt64 >>> ((24 : Int32) &&& 0x3f).toInt64.toUInt64).toInt64).toInt32).toInt8.toInt32))), (.int (nar .byte ((((av.toUInt64 >>> ((32 : Int32) &&& 0x3f).toInt64.toUInt64).toInt64).toInt32).toInt8.toInt32))), (.int (nar .byte ((((av.toUInt64 >>> ((40 : Int32) &&& 0x3f).toInt64.toUInt64).toInt64).toInt32).toInt8.toInt32))), (.int (nar .byte ((((av.toUInt64 >>> ((48 : Int32) &&& 0x3f).toInt64.toUInt64).toInt64).toInt32).toInt8.toInt32))), (.int (nar .byte ((((av.toUInt64 >>> ((56 : Int32) &&& 0x3f).toInt64.toUInt64).toInt64).toInt32).toInt8.toInt32))), (.int (nar .byte ((cv.toInt32).toInt8.toInt32))), (.int (nar .byte ((((cv.toUInt64 >>> ((8 : Int32) &&& 0x3f).toInt64.toUInt64).toInt64).toInt32).toInt8.toInt32))), (.int (nar .byte ((((cv.toUInt64 >>> ((16 : Int32) &&& 0x3f).toInt64.toUInt64).toInt64).toInt32).toInt8.toInt32))), (.int (nar .byte ((((cv.toUInt64 >>> ((24 : Int32) &&& 0x3f).toInt64.toUInt64).toInt64).toInt32).toInt8.toInt32))), (.int (nar .byte ((((cv.toUInt64 >>> ((32 : Int32) &&& 0x3f).toInt64.toUInt64).toInt64).toInt32).toInt8.toInt32))), (.int (nar .byte ((((cv.toUInt64 >>> ((40 : Int32) &&& 0x3f).toInt64.toUInt64).toInt64).toInt32).toInt8.toInt32))), (.int (nar .byte ((((cv.toUInt64 >>> ((48 : Int32) &&& 0x3f).toInt64.toUInt64).toInt64).toInt32).toInt8.toInt32))), (.int (0 : Int32))] (.int (0 : Int32)) := Arv.set Ar_b76_106 q_b76_106 S_b76_106 M_b76_106 H_b76_106 G_b76_106 (fits_nar_byte _) W106 14 rfl (Nat.le_of_ble_eq_true rfl)
  have F106_0 := V106_b76
  have Zs106 : n0 ≤ h106.size := Nat.le_trans Zs104 (Keep.of_wr W106).1
  have K106 := K104.wr W106 (Or.inr sz_b76)
  have N106 := Fr.snoc X106 N104 g_b76
  have pre106 : ∀ t, Steps p.tables e below (T106.setTop (mkF m 142 #[.val (.long av), .second, .val (.long cv), .second, .val (.int fv), .val (.int lv), .unset, .unset, .unset, .unset, .unset, .unset, .unset, .unset, .unset, .unset] [(.ref b76)])) t → Steps p.tables e below (s₁.setTop (entryFrame m #[(.long av), (.long cv), (.int fv), (.int lv)] maxLocals)) t := fun t kt => pre105 _ (st106 t kt)
  have pre107 : ∀ t, Steps p.tables e below (T106.setTop (mkF m 151 #[.val (.long av), .second, .val (.long cv), .second, .val (.int fv), .val (.int lv), .unset, .unset, .unset, .unset, .unset, .unset, .unset, .unset, .unset, .unset] [(.int ((((cv.toUInt64 >>> ((56 : Int32) &&& 0x3f).toInt64.toUInt64).toInt64).toInt32).toInt8.toInt32)), (.int (15 : Int32)), (.ref b76), (.ref b76)])) t → Steps p.tables e below (s₁.setTop (entryFrame m #[(.long av), (.long cv), (.int fv), (.int lv)] maxLocals)) t := fun t kt => by
    refine pre106 _ ?_
    show Steps p.tables e below (T106.setTop (mkF m 142 #[.val (.long av), .second, .val (.long cv), .second, .val (.int fv), .val (.int lv), .unset, .unset, .unset, .unset, .unset, .unset, .unset, .unset, .unset, .unset] [(.ref b76)])) _
    refine XS.dup X106.here hx rfl (hb hby at_142) rfl rfl ?_
    show Steps p.tables e below (T106.setTop (mkF m 143 #[.val (.long av), .second, .val (.long cv), .second, .val (.int fv), .val (.int lv), .unset, .unset, .unset, .unset, .unset, .unset, .unset, .unset, .unset, .unset] [(.ref b76), (.ref b76)])) _
    refine XS.bipush X106.here hx rfl (hb hby at_143) ?_
    show Steps p.tables e below (T106.setTop (mkF m 145 #[.val (.long av), .second, .val (.long cv), .second, .val (.int fv), .val (.int lv), .unset, .unset, .unset, .unset, .unset, .unset, .unset, .unset, .unset, .unset] [(.int (15 : Int32)), (.ref b76), (.ref b76)])) _
    refine XS.lloadN X106.here hx rfl (hb hby at_145) rfl ?_
    show Steps p.tables e below (T106.setTop (mkF m 146 #[.val (.long av), .second, .val (.long cv), .second, .val (.int fv), .val (.int lv), .unset, .unset, .unset, .unset, .unset, .unset, .unset, .unset, .unset, .unset] [(.long cv), (.int (15 : Int32)), (.ref b76), (.ref b76)])) _
    refine XS.bipush X106.here hx rfl (hb hby at_146) ?_
    show Steps p.tables e below (T106.setTop (mkF m 148 #[.val (.long av), .second, .val (.long cv), .second, .val (.int fv), .val (.int lv), .unset, .unset, .unset, .unset, .unset, .unset, .unset, .unset, .unset, .unset] [(.int (56 : Int32)), (.long cv), (.int (15 : Int32)), (.ref b76), (.ref b76)])) _
    refine XS.lushr X106.here hx rfl (hb hby at_148) rfl ?_
    show Steps p.tables e below (T106.setTop (mkF m 149 #[.val (.long av), .second, .val (.long cv), .second, .val (.int fv), .val (.int lv), .unset, .unset, .unset, .unset, .unset, .unset, .unset, .unset, .unset, .unset] [(.long ((cv.toUInt64 >>> ((56 : Int32) &&& 0x3f).toInt64.toUInt64).toInt64)), (.int (15 : Int32)), (.ref b76), (.ref b76)])) _
    refine XS.l2i X106.here hx rfl (hb hby at_149) rfl ?_
    show Steps p.tables e below (T106.setTop (mkF m 150 #[.val (.long av), .second, .val (.long cv), .second, .val (.int fv), .val (.int lv), .unset, .unset, .unset, .unset, .unset, .unset, .unset, .unset, .unset, .unset] [(.int (((cv.toUInt64 >>> ((56 : Int32) &&& 0x3f).toInt64.toUInt64).toInt64).toInt32)), (.int (15 : Int32)), (.ref b76), (.ref b76)])) _
    refine XS.i2b X106.here hx rfl (hb hby at_150) rfl ?_
    show Steps p.tables e below (T106.setTop (mkF m 151 #[.val (.long av), .second, .val (.long cv), .second, .val (.int fv), .val (.int lv), .unset, .unset, .unset, .unset, .unset, .unset, .unset, .unset, .unset, .unset] [(.int ((((cv.toUInt64 >>> ((56 : Int32) &&& 0x3f).toInt64.toUInt64).toInt64).toInt32).toInt8.toInt32)), (.int (15 : Int32)), (.ref b76), (.ref b76)])) _
    exact kt
  have Vo_b76_108 := F106_0
  obtain ⟨cl_b76_108, Ar_b76_108, q_b76_108, S_b76_108, M_b76_108, H_b76_108, G_b76_108⟩ := Vo_b76_108
  have hin108 : ¬ ((15 : Int32) < 0 ∨ cl_b76_108.slots.size ≤ ((15 : Int32)).toNatClampNeg) := inb_of S_b76_108 ⟨by decide, by decide⟩
  obtain ⟨T108, h108, X108, e108, W108, st108⟩ := stB X106 hx hZ e106 Ar_b76_108 (j := (15 : Int32)) hin108 (g := (mkF m 151 #[.val (.long av), .second, .val (.long cv), .second, .val (.int fv), .val (.int lv), .unset, .unset, .unset, .unset, .unset, .unset, .unset, .unset, .unset, .unset] [(.int ((((cv.toUInt64 >>> ((56 : Int32) &&& 0x3f).toInt64.toUInt64).toInt64).toInt32).toInt8.toInt32)), (.int (15 : Int32)), (.ref b76), (.ref b76)])) rfl rfl (hb hby at_151)
  have V108_b76 : Arv Z h108 b76 k76 .byte (16 : Int32) [(.int (nar .byte ((av.toInt32).toInt8.toInt32))), (.int (nar .byte ((((av.toUInt64 >>> ((8 : Int32) &&& 0x3f).toInt64.toUInt64).toInt64).toInt32).toInt8.toInt32))), (.int (nar .byte ((((av.toUInt64 >>> ((16 : Int32) &&& 0x3f).toInt64.toUInt64).toInt64).toInt32).toInt8.toInt32))), (.int (nar .byte ((((av.toUInt64 >>> ((24 : Int32) &&& 0x3f).toInt64.toUInt64).toInt64).toInt32).toInt8.toInt32))), (.int (nar .byte ((((av.toUInt64 >>> ((32 : Int32) &&& 0x3f).toInt64.toUInt64).toInt64).toInt32).toInt8.toInt32))), (.int (nar .byte ((((av.toUInt64 >>> ((40 : Int32) &&& 0x3f).toInt64.toUInt64).toInt64).toInt32).toInt8.toInt32))), (.int (nar .byte ((((av.toUInt64 >>> ((48 : Int32) &&& 0x3f).toInt64.toUInt64).toInt64).toInt32).toInt8.toInt32))), (.int (nar .byte ((((av.toUInt64 >>> ((56 : Int32) &&& 0x3f).toInt64.toUInt64).toInt64).toInt32).toInt8.toInt32))), (.int (nar .byte ((cv.toInt32).toInt8.toInt32))), (.int (nar .byte ((((cv.toUInt64 >>> ((8 : Int32) &&& 0x3f).toInt64.toUInt64).toInt64).toInt32).toInt8.toInt32))), (.int (nar .byte ((((cv.toUInt64 >>> ((16 : Int32) &&& 0x3f).toInt64.toUInt64).toInt64).toInt32).toInt8.toInt32))), (.int (nar .byte ((((cv.toUInt64 >>> ((24 : Int32) &&& 0x3f).toInt64.toUInt64).toInt64).toInt32).toInt8.toInt32))), (.int (nar .byte ((((cv.toUInt64 >>> ((32 : Int32) &&& 0x3f).toInt64.toUInt64).toInt64).toInt32).toInt8.toInt32))), (.int (nar .byte ((((cv.toUInt64 >>> ((40 : Int32) &&& 0x3f).toInt64.toUInt64).toInt64).toInt32).toInt8.toInt32))), (.int (nar .byte ((((cv.toUInt64 >>> ((48 : Int32) &&& 0x3f).toInt64.toUInt64).toInt64).toInt32).toInt8.toInt32))), (.int (nar .byte ((((cv.toUInt64 >>> ((56 : Int32) &&& 0x3f).toInt64.toUInt64).toInt64).toInt32).toInt8.toInt32)))] (.int (0 : Int32)) := Arv.set Ar_b76_108 q_b76_108 S_b76_108 M_b76_108 H_b76_108 G_b76_108 (fits_nar_byte _) W108 15 rfl (Nat.le_of_ble_eq_true rfl)
  have F108_0 := V108_b76
  have Zs108 : n0 ≤ h108.size := Nat.le_trans Zs106 (Keep.of_wr W108).1
  have K108 := K106.wr W108 (Or.inr sz_b76)
  have N108 := Fr.snoc X108 N106 g_b76
  have pre108 : ∀ t, Steps p.tables e below (T108.setTop (mkF m 152 #[.val (.long av), .second, .val (.long cv), .second, .val (.int fv), .val (.int lv), .unset, .unset, .unset, .unset, .unset, .unset, .unset, .unset, .unset, .unset] [(.ref b76)])) t → Steps p.tables e below (s₁.setTop (entryFrame m #[(.long av), (.long cv), (.int fv), (.int lv)] maxLocals)) t := fun t kt => pre107 _ (st108 t kt)
  have pre109 : ∀ t, Steps p.tables e below (T108.setTop (mkF m 154 #[.val (.long av), .second, .val (.long cv), .second, .val (.int fv), .val (.int lv), .val (.ref b76), .unset, .unset, .unset, .unset, .unset, .unset, .unset, .unset, .unset] [])) t → Steps p.tables e below (s₁.setTop (entryFrame m #[(.long av), (.long cv), (.int fv), (.int lv)] maxLocals)) t := fun t kt => by
    refine pre108 _ ?_
    show Steps p.tables e below (T108.setTop (mkF m 152 #[.val (.long av), .second, .val (.long cv), .second, .val (.int fv), .val (.int lv), .unset, .unset, .unset, .unset, .unset, .unset, .unset, .unset, .unset, .unset] [(.ref b76)])) _
    refine XS.astore X108.here hx rfl (hb hby at_152) rfl rfl (l' := #[.val (.long av), .second, .val (.long cv), .second, .val (.int fv), .val (.int lv), .val (.ref b76), .unset, .unset, .unset, .unset, .unset, .unset, .unset, .unset, .unset]) rfl ?_
    show Steps p.tables e below (T108.setTop (mkF m 154 #[.val (.long av), .second, .val (.long cv), .second, .val (.int fv), .val (.int lv), .val (.ref b76), .unset, .unset, .unset, .unset, .unset, .unset, .unset, .unset, .unset] [])) _
    exact kt
  obtain ⟨DL, e_DL⟩ : ∃ z : List Int32, z = [(nar .byte ((av.toInt32).toInt8.toInt32)), (nar .byte ((((av.toUInt64 >>> ((8 : Int32) &&& 0x3f).toInt64.toUInt64).toInt64).toInt32).toInt8.toInt32)), (nar .byte ((((av.toUInt64 >>> ((16 : Int32) &&& 0x3f).toInt64.toUInt64).toInt64).toInt32).toInt8.toInt32)), (nar .byte ((((av.toUInt64 >>> ((24 : Int32) &&& 0x3f).toInt64.toUInt64).toInt64).toInt32).toInt8.toInt32)), (nar .byte ((((av.toUInt64 >>> ((32 : Int32) &&& 0x3f).toInt64.toUInt64).toInt64).toInt32).toInt8.toInt32)), (nar .byte ((((av.toUInt64 >>> ((40 : Int32) &&& 0x3f).toInt64.toUInt64).toInt64).toInt32).toInt8.toInt32)), (nar .byte ((((av.toUInt64 >>> ((48 : Int32) &&& 0x3f).toInt64.toUInt64).toInt64).toInt32).toInt8.toInt32)), (nar .byte ((((av.toUInt64 >>> ((56 : Int32) &&& 0x3f).toInt64.toUInt64).toInt64).toInt32).toInt8.toInt32)), (nar .byte ((cv.toInt32).toInt8.toInt32)), (nar .byte ((((cv.toUInt64 >>> ((8 : Int32) &&& 0x3f).toInt64.toUInt64).toInt64).toInt32).toInt8.toInt32)), (nar .byte ((((cv.toUInt64 >>> ((16 : Int32) &&& 0x3f).toInt64.toUInt64).toInt64).toInt32).toInt8.toInt32)), (nar .byte ((((cv.toUInt64 >>> ((24 : Int32) &&& 0x3f).toInt64.toUInt64).toInt64).toInt32).toInt8.toInt32)), (nar .byte ((((cv.toUInt64 >>> ((32 : Int32) &&& 0x3f).toInt64.toUInt64).toInt64).toInt32).toInt8.toInt32)), (nar .byte ((((cv.toUInt64 >>> ((40 : Int32) &&& 0x3f).toInt64.toUInt64).toInt64).toInt32).toInt8.toInt32)), (nar .byte ((((cv.toUInt64 >>> ((48 : Int32) &&& 0x3f).toInt64.toUInt64).toInt64).toInt32).toInt8.toInt32)), (nar .byte ((((cv.toUInt64 >>> ((56 : Int32) &&& 0x3f).toInt64.toUInt64).toInt64).toInt32).toInt8.toInt32))] := ⟨_, rfl⟩
  obtain ⟨vs, e_vs⟩ : ∃ z : List Value, z = [(.int (nar .byte ((av.toInt32).toInt8.toInt32))), (.int (nar .byte ((((av.toUInt64 >>> ((8 : Int32) &&& 0x3f).toInt64.toUInt64).toInt64).toInt32).toInt8.toInt32))), (.int (nar .byte ((((av.toUInt64 >>> ((16 : Int32) &&& 0x3f).toInt64.toUInt64).toInt64).toInt32).toInt8.toInt32))), (.int (nar .byte ((((av.toUInt64 >>> ((24 : Int32) &&& 0x3f).toInt64.toUInt64).toInt64).toInt32).toInt8.toInt32))), (.int (nar .byte ((((av.toUInt64 >>> ((32 : Int32) &&& 0x3f).toInt64.toUInt64).toInt64).toInt32).toInt8.toInt32))), (.int (nar .byte ((((av.toUInt64 >>> ((40 : Int32) &&& 0x3f).toInt64.toUInt64).toInt64).toInt32).toInt8.toInt32))), (.int (nar .byte ((((av.toUInt64 >>> ((48 : Int32) &&& 0x3f).toInt64.toUInt64).toInt64).toInt32).toInt8.toInt32))), (.int (nar .byte ((((av.toUInt64 >>> ((56 : Int32) &&& 0x3f).toInt64.toUInt64).toInt64).toInt32).toInt8.toInt32))), (.int (nar .byte ((cv.toInt32).toInt8.toInt32))), (.int (nar .byte ((((cv.toUInt64 >>> ((8 : Int32) &&& 0x3f).toInt64.toUInt64).toInt64).toInt32).toInt8.toInt32))), (.int (nar .byte ((((cv.toUInt64 >>> ((16 : Int32) &&& 0x3f).toInt64.toUInt64).toInt64).toInt32).toInt8.toInt32))), (.int (nar .byte ((((cv.toUInt64 >>> ((24 : Int32) &&& 0x3f).toInt64.toUInt64).toInt64).toInt32).toInt8.toInt32))), (.int (nar .byte ((((cv.toUInt64 >>> ((32 : Int32) &&& 0x3f).toInt64.toUInt64).toInt64).toInt32).toInt8.toInt32))), (.int (nar .byte ((((cv.toUInt64 >>> ((40 : Int32) &&& 0x3f).toInt64.toUInt64).toInt64).toInt32).toInt8.toInt32))), (.int (nar .byte ((((cv.toUInt64 >>> ((48 : Int32) &&& 0x3f).toInt64.toUInt64).toInt64).toInt32).toInt8.toInt32))), (.int (nar .byte ((((cv.toUInt64 >>> ((56 : Int32) &&& 0x3f).toInt64.toUInt64).toInt64).toInt32).toInt8.toInt32)))] := ⟨_, rfl⟩
  have hvs : vs = DL.map Value.int := by rw [e_vs, e_DL]; rfl
  have hlen : DL.length = 16 := by rw [e_DL]; rfl
  have Vd : Arv Z h108 b76 k76 .byte (16 : Int32) vs (.int (0 : Int32)) := by
    rw [e_vs]
    exact F108_0
  obtain ⟨DV, e_DV⟩ : ∃ z : Nat → Int32, z = fun k => DL.getD k 0 := ⟨_, rfl⟩
  have hDV : ∀ k, k < 16 → vs.getD k (.int (0 : Int32)) = .int (DV k) := fun k hk => by
    rw [hvs, e_DV]
    simp [List.getD, List.getElem?_map, hlen, hk]
  clear hvs hlen e_vs e_DL e_DV
  have pre110 : ∀ t, Steps p.tables e below (T108.setTop (mkF m 164 #[.val (.long av), .second, .val (.long cv), .second, .val (.int fv), .val (.int lv), .val (.ref b76), .val (.int ((fv &&& (2147483647 : Int32)) - ((fv &&& (2147483647 : Int32)) / (17 : Int32)) * (17 : Int32))), .unset, .unset, .unset, .unset, .unset, .unset, .unset, .unset] [])) t → Steps p.tables e below (s₁.setTop (entryFrame m #[(.long av), (.long cv), (.int fv), (.int lv)] maxLocals)) t := fun t kt => by
    refine pre109 _ ?_
    show Steps p.tables e below (T108.setTop (mkF m 154 #[.val (.long av), .second, .val (.long cv), .second, .val (.int fv), .val (.int lv), .val (.ref b76), .unset, .unset, .unset, .unset, .unset, .unset, .unset, .unset, .unset] [])) _
    refine XS.iload X108.here hx rfl (hb hby at_154) rfl ?_
    show Steps p.tables e below (T108.setTop (mkF m 156 #[.val (.long av), .second, .val (.long cv), .second, .val (.int fv), .val (.int lv), .val (.ref b76), .unset, .unset, .unset, .unset, .unset, .unset, .unset, .unset, .unset] [(.int fv)])) _
    refine X108.ldcInt hx hown (mvT hZ (hw _ (List.mem_of_getElem? (i := 1) rfl))) (g := (mkF m 156 #[.val (.long av), .second, .val (.long cv), .second, .val (.int fv), .val (.int lv), .val (.ref b76), .unset, .unset, .unset, .unset, .unset, .unset, .unset, .unset, .unset] [(.int fv)])) rfl (hb hby at_156) _ ?_
    show Steps p.tables e below (T108.setTop (mkF m 158 #[.val (.long av), .second, .val (.long cv), .second, .val (.int fv), .val (.int lv), .val (.ref b76), .unset, .unset, .unset, .unset, .unset, .unset, .unset, .unset, .unset] [(.int (2147483647 : Int32)), (.int fv)])) _
    refine XS.iand X108.here hx rfl (hb hby at_158) rfl ?_
    show Steps p.tables e below (T108.setTop (mkF m 159 #[.val (.long av), .second, .val (.long cv), .second, .val (.int fv), .val (.int lv), .val (.ref b76), .unset, .unset, .unset, .unset, .unset, .unset, .unset, .unset, .unset] [(.int (fv &&& (2147483647 : Int32)))])) _
    refine XS.bipush X108.here hx rfl (hb hby at_159) ?_
    show Steps p.tables e below (T108.setTop (mkF m 161 #[.val (.long av), .second, .val (.long cv), .second, .val (.int fv), .val (.int lv), .val (.ref b76), .unset, .unset, .unset, .unset, .unset, .unset, .unset, .unset, .unset] [(.int (17 : Int32)), (.int (fv &&& (2147483647 : Int32)))])) _
    refine XS.irem X108.here hx rfl (hb hby at_161) rfl (by decide) ?_
    show Steps p.tables e below (T108.setTop (mkF m 162 #[.val (.long av), .second, .val (.long cv), .second, .val (.int fv), .val (.int lv), .val (.ref b76), .unset, .unset, .unset, .unset, .unset, .unset, .unset, .unset, .unset] [(.int ((fv &&& (2147483647 : Int32)) - ((fv &&& (2147483647 : Int32)) / (17 : Int32)) * (17 : Int32)))])) _
    refine XS.istore X108.here hx rfl (hb hby at_162) rfl (l' := #[.val (.long av), .second, .val (.long cv), .second, .val (.int fv), .val (.int lv), .val (.ref b76), .val (.int ((fv &&& (2147483647 : Int32)) - ((fv &&& (2147483647 : Int32)) / (17 : Int32)) * (17 : Int32))), .unset, .unset, .unset, .unset, .unset, .unset, .unset, .unset]) rfl ?_
    show Steps p.tables e below (T108.setTop (mkF m 164 #[.val (.long av), .second, .val (.long cv), .second, .val (.int fv), .val (.int lv), .val (.ref b76), .val (.int ((fv &&& (2147483647 : Int32)) - ((fv &&& (2147483647 : Int32)) / (17 : Int32)) * (17 : Int32))), .unset, .unset, .unset, .unset, .unset, .unset, .unset, .unset] [])) _
    exact kt
  obtain ⟨ov, ho, eo⟩ := own_off fv 17 (by omega) (by omega) (17 : Int32) (by decide)
  have pre111 : ∀ t, Steps p.tables e below (T108.setTop (mkF m 164 #[.val (.long av), .second, .val (.long cv), .second, .val (.int fv), .val (.int lv), .val (.ref b76), .val (.int (Int32.ofNat ov)), .unset, .unset, .unset, .unset, .unset, .unset, .unset, .unset] [])) t → Steps p.tables e below (s₁.setTop (entryFrame m #[(.long av), (.long cv), (.int fv), (.int lv)] maxLocals)) t := by
    have q := pre110
    rw [eo] at q
    exact q
  have k17 : (17 : Int32).toInt = 17 := by decide
  have h5 : ((17 : Int32) - (Int32.ofNat ov)).toInt = 17 - ov := by
    have e := own_nat (n := ov) (by omega)
    rw [Jvm.Kit.i32_sub (by omega) (by omega), e, k17]
  have hnz : ((17 : Int32) - (Int32.ofNat ov)) ≠ 0 := fun q => by
    rw [q] at h5
    have : (0 : Int32).toInt = 0 := by decide
    omega
  have pre112 : ∀ t, Steps p.tables e below (T108.setTop (mkF m 177 #[.val (.long av), .second, .val (.long cv), .second, .val (.int fv), .val (.int lv), .val (.ref b76), .val (.int (Int32.ofNat ov)), .val (.int ((lv &&& (2147483647 : Int32)) - ((lv &&& (2147483647 : Int32)) / ((17 : Int32) - (Int32.ofNat ov))) * ((17 : Int32) - (Int32.ofNat ov)))), .unset, .unset, .unset, .unset, .unset, .unset, .unset] [])) t → Steps p.tables e below (s₁.setTop (entryFrame m #[(.long av), (.long cv), (.int fv), (.int lv)] maxLocals)) t := fun t kt => by
    refine pre111 _ ?_
    show Steps p.tables e below (T108.setTop (mkF m 164 #[.val (.long av), .second, .val (.long cv), .second, .val (.int fv), .val (.int lv), .val (.ref b76), .val (.int (Int32.ofNat ov)), .unset, .unset, .unset, .unset, .unset, .unset, .unset, .unset] [])) _
    refine XS.iload X108.here hx rfl (hb hby at_164) rfl ?_
    show Steps p.tables e below (T108.setTop (mkF m 166 #[.val (.long av), .second, .val (.long cv), .second, .val (.int fv), .val (.int lv), .val (.ref b76), .val (.int (Int32.ofNat ov)), .unset, .unset, .unset, .unset, .unset, .unset, .unset, .unset] [(.int lv)])) _
    refine X108.ldcInt hx hown (mvT hZ (hw _ (List.mem_of_getElem? (i := 1) rfl))) (g := (mkF m 166 #[.val (.long av), .second, .val (.long cv), .second, .val (.int fv), .val (.int lv), .val (.ref b76), .val (.int (Int32.ofNat ov)), .unset, .unset, .unset, .unset, .unset, .unset, .unset, .unset] [(.int lv)])) rfl (hb hby at_166) _ ?_
    show Steps p.tables e below (T108.setTop (mkF m 168 #[.val (.long av), .second, .val (.long cv), .second, .val (.int fv), .val (.int lv), .val (.ref b76), .val (.int (Int32.ofNat ov)), .unset, .unset, .unset, .unset, .unset, .unset, .unset, .unset] [(.int (2147483647 : Int32)), (.int lv)])) _
    refine XS.iand X108.here hx rfl (hb hby at_168) rfl ?_
    show Steps p.tables e below (T108.setTop (mkF m 169 #[.val (.long av), .second, .val (.long cv), .second, .val (.int fv), .val (.int lv), .val (.ref b76), .val (.int (Int32.ofNat ov)), .unset, .unset, .unset, .unset, .unset, .unset, .unset, .unset] [(.int (lv &&& (2147483647 : Int32)))])) _
    refine XS.bipush X108.here hx rfl (hb hby at_169) ?_
    show Steps p.tables e below (T108.setTop (mkF m 171 #[.val (.long av), .second, .val (.long cv), .second, .val (.int fv), .val (.int lv), .val (.ref b76), .val (.int (Int32.ofNat ov)), .unset, .unset, .unset, .unset, .unset, .unset, .unset, .unset] [(.int (17 : Int32)), (.int (lv &&& (2147483647 : Int32)))])) _
    refine XS.iload X108.here hx rfl (hb hby at_171) rfl ?_
    show Steps p.tables e below (T108.setTop (mkF m 173 #[.val (.long av), .second, .val (.long cv), .second, .val (.int fv), .val (.int lv), .val (.ref b76), .val (.int (Int32.ofNat ov)), .unset, .unset, .unset, .unset, .unset, .unset, .unset, .unset] [(.int (Int32.ofNat ov)), (.int (17 : Int32)), (.int (lv &&& (2147483647 : Int32)))])) _
    refine XS.isub X108.here hx rfl (hb hby at_173) rfl ?_
    show Steps p.tables e below (T108.setTop (mkF m 174 #[.val (.long av), .second, .val (.long cv), .second, .val (.int fv), .val (.int lv), .val (.ref b76), .val (.int (Int32.ofNat ov)), .unset, .unset, .unset, .unset, .unset, .unset, .unset, .unset] [(.int ((17 : Int32) - (Int32.ofNat ov))), (.int (lv &&& (2147483647 : Int32)))])) _
    refine XS.irem X108.here hx rfl (hb hby at_174) rfl hnz ?_
    show Steps p.tables e below (T108.setTop (mkF m 175 #[.val (.long av), .second, .val (.long cv), .second, .val (.int fv), .val (.int lv), .val (.ref b76), .val (.int (Int32.ofNat ov)), .unset, .unset, .unset, .unset, .unset, .unset, .unset, .unset] [(.int ((lv &&& (2147483647 : Int32)) - ((lv &&& (2147483647 : Int32)) / ((17 : Int32) - (Int32.ofNat ov))) * ((17 : Int32) - (Int32.ofNat ov))))])) _
    refine XS.istore X108.here hx rfl (hb hby at_175) rfl (l' := #[.val (.long av), .second, .val (.long cv), .second, .val (.int fv), .val (.int lv), .val (.ref b76), .val (.int (Int32.ofNat ov)), .val (.int ((lv &&& (2147483647 : Int32)) - ((lv &&& (2147483647 : Int32)) / ((17 : Int32) - (Int32.ofNat ov))) * ((17 : Int32) - (Int32.ofNat ov)))), .unset, .unset, .unset, .unset, .unset, .unset, .unset]) rfl ?_
    show Steps p.tables e below (T108.setTop (mkF m 177 #[.val (.long av), .second, .val (.long cv), .second, .val (.int fv), .val (.int lv), .val (.ref b76), .val (.int (Int32.ofNat ov)), .val (.int ((lv &&& (2147483647 : Int32)) - ((lv &&& (2147483647 : Int32)) / ((17 : Int32) - (Int32.ofNat ov))) * ((17 : Int32) - (Int32.ofNat ov)))), .unset, .unset, .unset, .unset, .unset, .unset, .unset] [])) _
    exact kt
  obtain ⟨nv, hn, en⟩ := own_off lv (17 - ov) (by omega) (by omega) _ h5
  have pre113 : ∀ t, Steps p.tables e below (T108.setTop (mkF m 177 #[.val (.long av), .second, .val (.long cv), .second, .val (.int fv), .val (.int lv), .val (.ref b76), .val (.int (Int32.ofNat ov)), .val (.int (Int32.ofNat nv)), .unset, .unset, .unset, .unset, .unset, .unset, .unset] [])) t → Steps p.tables e below (s₁.setTop (entryFrame m #[(.long av), (.long cv), (.int fv), (.int lv)] maxLocals)) t := by
    have q := pre112
    rw [en] at q
    exact q
  have hon : ov + nv ≤ 16 := by omega
  have pre114 : ∀ t, Steps p.tables e below (T108.setTop (mkF m 184 #[.val (.long av), .second, .val (.long cv), .second, .val (.int fv), .val (.int lv), .val (.ref b76), .val (.int (Int32.ofNat ov)), .val (.int (Int32.ofNat nv)), .val (.int ((Int32.ofNat ov) + (Int32.ofNat nv))), .unset, .unset, .unset, .unset, .unset, .unset] [])) t → Steps p.tables e below (s₁.setTop (entryFrame m #[(.long av), (.long cv), (.int fv), (.int lv)] maxLocals)) t := fun t kt => by
    refine pre113 _ ?_
    show Steps p.tables e below (T108.setTop (mkF m 177 #[.val (.long av), .second, .val (.long cv), .second, .val (.int fv), .val (.int lv), .val (.ref b76), .val (.int (Int32.ofNat ov)), .val (.int (Int32.ofNat nv)), .unset, .unset, .unset, .unset, .unset, .unset, .unset] [])) _
    refine XS.iload X108.here hx rfl (hb hby at_177) rfl ?_
    show Steps p.tables e below (T108.setTop (mkF m 179 #[.val (.long av), .second, .val (.long cv), .second, .val (.int fv), .val (.int lv), .val (.ref b76), .val (.int (Int32.ofNat ov)), .val (.int (Int32.ofNat nv)), .unset, .unset, .unset, .unset, .unset, .unset, .unset] [(.int (Int32.ofNat ov))])) _
    refine XS.iload X108.here hx rfl (hb hby at_179) rfl ?_
    show Steps p.tables e below (T108.setTop (mkF m 181 #[.val (.long av), .second, .val (.long cv), .second, .val (.int fv), .val (.int lv), .val (.ref b76), .val (.int (Int32.ofNat ov)), .val (.int (Int32.ofNat nv)), .unset, .unset, .unset, .unset, .unset, .unset, .unset] [(.int (Int32.ofNat nv)), (.int (Int32.ofNat ov))])) _
    refine XS.iadd X108.here hx rfl (hb hby at_181) rfl ?_
    show Steps p.tables e below (T108.setTop (mkF m 182 #[.val (.long av), .second, .val (.long cv), .second, .val (.int fv), .val (.int lv), .val (.ref b76), .val (.int (Int32.ofNat ov)), .val (.int (Int32.ofNat nv)), .unset, .unset, .unset, .unset, .unset, .unset, .unset] [(.int ((Int32.ofNat ov) + (Int32.ofNat nv)))])) _
    refine XS.istore X108.here hx rfl (hb hby at_182) rfl (l' := #[.val (.long av), .second, .val (.long cv), .second, .val (.int fv), .val (.int lv), .val (.ref b76), .val (.int (Int32.ofNat ov)), .val (.int (Int32.ofNat nv)), .val (.int ((Int32.ofNat ov) + (Int32.ofNat nv))), .unset, .unset, .unset, .unset, .unset, .unset]) rfl ?_
    show Steps p.tables e below (T108.setTop (mkF m 184 #[.val (.long av), .second, .val (.long cv), .second, .val (.int fv), .val (.int lv), .val (.ref b76), .val (.int (Int32.ofNat ov)), .val (.int (Int32.ofNat nv)), .val (.int ((Int32.ofNat ov) + (Int32.ofNat nv))), .unset, .unset, .unset, .unset, .unset, .unset] [])) _
    exact kt
  have pre115 : ∀ t, Steps p.tables e below (T108.setTop (mkF m 184 #[.val (.long av), .second, .val (.long cv), .second, .val (.int fv), .val (.int lv), .val (.ref b76), .val (.int (Int32.ofNat ov)), .val (.int (Int32.ofNat nv)), .val (.int (Int32.ofNat (ov + nv))), .unset, .unset, .unset, .unset, .unset, .unset] [])) t → Steps p.tables e below (s₁.setTop (entryFrame m #[(.long av), (.long cv), (.int fv), (.int lv)] maxLocals)) t := by
    have q := pre114
    rw [show Int32.ofNat ov + Int32.ofNat nv = Int32.ofNat (ov + nv) from Int32.toInt_inj.mp (by rw [own_add (by omega) (by omega), own_nat (by omega)])] at q
    exact q
  have h7 : (7 : Int32) < (Int32.ofNat nv) ↔ 7 < nv := own_ltn (i := 7) (n := nv) (by omega) (by omega)
  by_cases hs : nv ≤ 7
  · have pre116 : ∀ t, Steps p.tables e below (T108.setTop (mkF m 190 #[.val (.long av), .second, .val (.long cv), .second, .val (.int fv), .val (.int lv), .val (.ref b76), .val (.int (Int32.ofNat ov)), .val (.int (Int32.ofNat nv)), .val (.int (Int32.ofNat (ov + nv))), .unset, .unset, .unset, .unset, .unset, .unset] [(.int (Int32.ofNat (ov + nv))), (.int (Int32.ofNat ov)), (.ref b76)])) t → Steps p.tables e below (s₁.setTop (entryFrame m #[(.long av), (.long cv), (.int fv), (.int lv)] maxLocals)) t := fun t kt => by
      refine pre115 _ ?_
      show Steps p.tables e below (T108.setTop (mkF m 184 #[.val (.long av), .second, .val (.long cv), .second, .val (.int fv), .val (.int lv), .val (.ref b76), .val (.int (Int32.ofNat ov)), .val (.int (Int32.ofNat nv)), .val (.int (Int32.ofNat (ov + nv))), .unset, .unset, .unset, .unset, .unset, .unset] [])) _
      refine XS.aload X108.here hx rfl (hb hby at_184) rfl rfl ?_
      show Steps p.tables e below (T108.setTop (mkF m 186 #[.val (.long av), .second, .val (.long cv), .second, .val (.int fv), .val (.int lv), .val (.ref b76), .val (.int (Int32.ofNat ov)), .val (.int (Int32.ofNat nv)), .val (.int (Int32.ofNat (ov + nv))), .unset, .unset, .unset, .unset, .unset, .unset] [(.ref b76)])) _
      refine XS.iload X108.here hx rfl (hb hby at_186) rfl ?_
      show Steps p.tables e below (T108.setTop (mkF m 188 #[.val (.long av), .second, .val (.long cv), .second, .val (.int fv), .val (.int lv), .val (.ref b76), .val (.int (Int32.ofNat ov)), .val (.int (Int32.ofNat nv)), .val (.int (Int32.ofNat (ov + nv))), .unset, .unset, .unset, .unset, .unset, .unset] [(.int (Int32.ofNat ov)), (.ref b76)])) _
      refine XS.iload X108.here hx rfl (hb hby at_188) rfl ?_
      show Steps p.tables e below (T108.setTop (mkF m 190 #[.val (.long av), .second, .val (.long cv), .second, .val (.int fv), .val (.int lv), .val (.ref b76), .val (.int (Int32.ofNat ov)), .val (.int (Int32.ofNat nv)), .val (.int (Int32.ofNat (ov + nv))), .unset, .unset, .unset, .unset, .unset, .unset] [(.int (Int32.ofNat (ov + nv))), (.int (Int32.ofNat ov)), (.ref b76)])) _
      exact kt
    obtain ⟨v117, _, ⟨T117, L117, k117, n117⟩, -, X117, ⟨Lc117, hQ117, l117, y117, z117⟩, st117⟩ := Jvm.LawKit.callS X108 hx (y := (⟨"com/example/attestry/attestry/ParticipantNames", "key", "([BII)J"⟩ : MethodName)) hown (mvT hZ (hw _ (List.mem_of_getElem? (i := 2) rfl))) (mvT hZ (hw _ (List.mem_of_getElem? (i := 3) rfl))) (mvT hZ (hw _ (List.mem_of_getElem? (i := 4) rfl))) (mvT hZ (hw _ (List.mem_of_getElem? (i := 5) rfl))) (by decide) (backOf (W := 0) (rm1_s l Z aZ hw [] b76 ov nv k76 vs DV h108 n0 Zs108 Vd hDV hon hs) hZ (hw _ (List.mem_of_getElem? (i := 5) rfl)) (hw _ (List.mem_of_getElem? (i := 4) rfl)) (by decide) (by decide)) (g := (mkF m 190 #[.val (.long av), .second, .val (.long cv), .second, .val (.int fv), .val (.int lv), .val (.ref b76), .val (.int (Int32.ofNat ov)), .val (.int (Int32.ofNat nv)), .val (.int (Int32.ofNat (ov + nv))), .unset, .unset, .unset, .unset, .unset, .unset] [(.int (Int32.ofNat (ov + nv))), (.int (Int32.ofNat ov)), (.ref b76)])) rfl (by rw [hml]; rfl) (argsL := [(.ref b76), (.int (Int32.ofNat ov)), (.int (Int32.ofNat (ov + nv)))]) (rest := []) (lenOf pd_0 rfl) rfl (by show 2 * 0 + _ ≤ _; exact Nat.le_of_eq rfl) (hb hby at_190) (fun _ _ => ⟨rfl, e108, (by decide : 1 + 0 ≤ _), (by decide : 16 + 0 ≤ _)⟩)
    dsimp only [Pt.U, Pt.locs, Pt.cells, Pt.slots] at X117 l117 y117 z117 st117 hQ117
    rw [l117, y117, z117] at X117
    clear l117 y117 z117
    obtain ⟨vq117, N117q, Kc117⟩ := hQ117
    rw [vq117] at st117
    have N117 := Fr.app N108 N117q
    have pre117 : ∀ t, Steps p.tables e below (T117.setTop (mkF m 193 #[.val (.long av), .second, .val (.long cv), .second, .val (.int fv), .val (.int lv), .val (.ref b76), .val (.int (Int32.ofNat ov)), .val (.int (Int32.ofNat nv)), .val (.int (Int32.ofNat (ov + nv))), .unset, .unset, .unset, .unset, .unset, .unset] [(.long ((own_S DV (ov + nv) nv) ||| ((Int32.ofNat nv).toInt64 <<< ((56 : Int32) &&& 0x3f).toInt64)))])) t → Steps p.tables e below (s₁.setTop (entryFrame m #[(.long av), (.long cv), (.int fv), (.int lv)] maxLocals)) t := fun t kt => pre116 _ (st117 t kt)
    have Zs117 : n0 ≤ T117.heap.size := Nat.le_trans Zs108 Kc117.1
    have F117_0 := Vd.keep Kc117 (by simp)
    have K117 := K108.trans Kc117 (by simp)
    have pre118 : ∀ t, Steps p.tables e below (T117.setTop (mkF m 199 #[.val (.long av), .second, .val (.long cv), .second, .val (.int fv), .val (.int lv), .val (.ref b76), .val (.int (Int32.ofNat ov)), .val (.int (Int32.ofNat nv)), .val (.int (Int32.ofNat (ov + nv))), .val (.long ((own_S DV (ov + nv) nv) ||| ((Int32.ofNat nv).toInt64 <<< ((56 : Int32) &&& 0x3f).toInt64))), .second, .unset, .unset, .unset, .unset] [(.int (7 : Int32)), (.int (Int32.ofNat nv))])) t → Steps p.tables e below (s₁.setTop (entryFrame m #[(.long av), (.long cv), (.int fv), (.int lv)] maxLocals)) t := fun t kt => by
      refine pre117 _ ?_
      show Steps p.tables e below (T117.setTop (mkF m 193 #[.val (.long av), .second, .val (.long cv), .second, .val (.int fv), .val (.int lv), .val (.ref b76), .val (.int (Int32.ofNat ov)), .val (.int (Int32.ofNat nv)), .val (.int (Int32.ofNat (ov + nv))), .unset, .unset, .unset, .unset, .unset, .unset] [(.long ((own_S DV (ov + nv) nv) ||| ((Int32.ofNat nv).toInt64 <<< ((56 : Int32) &&& 0x3f).toInt64)))])) _
      refine XS.lstore X117.here hx rfl (hb hby at_193) rfl (l' := #[.val (.long av), .second, .val (.long cv), .second, .val (.int fv), .val (.int lv), .val (.ref b76), .val (.int (Int32.ofNat ov)), .val (.int (Int32.ofNat nv)), .val (.int (Int32.ofNat (ov + nv))), .val (.long ((own_S DV (ov + nv) nv) ||| ((Int32.ofNat nv).toInt64 <<< ((56 : Int32) &&& 0x3f).toInt64))), .second, .unset, .unset, .unset, .unset]) rfl ?_
      show Steps p.tables e below (T117.setTop (mkF m 195 #[.val (.long av), .second, .val (.long cv), .second, .val (.int fv), .val (.int lv), .val (.ref b76), .val (.int (Int32.ofNat ov)), .val (.int (Int32.ofNat nv)), .val (.int (Int32.ofNat (ov + nv))), .val (.long ((own_S DV (ov + nv) nv) ||| ((Int32.ofNat nv).toInt64 <<< ((56 : Int32) &&& 0x3f).toInt64))), .second, .unset, .unset, .unset, .unset] [])) _
      refine XS.iload X117.here hx rfl (hb hby at_195) rfl ?_
      show Steps p.tables e below (T117.setTop (mkF m 197 #[.val (.long av), .second, .val (.long cv), .second, .val (.int fv), .val (.int lv), .val (.ref b76), .val (.int (Int32.ofNat ov)), .val (.int (Int32.ofNat nv)), .val (.int (Int32.ofNat (ov + nv))), .val (.long ((own_S DV (ov + nv) nv) ||| ((Int32.ofNat nv).toInt64 <<< ((56 : Int32) &&& 0x3f).toInt64))), .second, .unset, .unset, .unset, .unset] [(.int (Int32.ofNat nv))])) _
      refine XS.bipush X117.here hx rfl (hb hby at_197) ?_
      show Steps p.tables e below (T117.setTop (mkF m 199 #[.val (.long av), .second, .val (.long cv), .second, .val (.int fv), .val (.int lv), .val (.ref b76), .val (.int (Int32.ofNat ov)), .val (.int (Int32.ofNat nv)), .val (.int (Int32.ofNat (ov + nv))), .val (.long ((own_S DV (ov + nv) nv) ||| ((Int32.ofNat nv).toInt64 <<< ((56 : Int32) &&& 0x3f).toInt64))), .second, .unset, .unset, .unset, .unset] [(.int (7 : Int32)), (.int (Int32.ofNat nv))])) _
      exact kt
    have pre119 : ∀ t, Steps p.tables e below (T117.setTop (mkF m 202 #[.val (.long av), .second, .val (.long cv), .second, .val (.int fv), .val (.int lv), .val (.ref b76), .val (.int (Int32.ofNat ov)), .val (.int (Int32.ofNat nv)), .val (.int (Int32.ofNat (ov + nv))), .val (.long ((own_S DV (ov + nv) nv) ||| ((Int32.ofNat nv).toInt64 <<< ((56 : Int32) &&& 0x3f).toInt64))), .second, .unset, .unset, .unset, .unset] [])) t → Steps p.tables e below (s₁.setTop (entryFrame m #[(.long av), (.long cv), (.int fv), (.int lv)] maxLocals)) t := fun t kt => by
      refine pre118 _ ?_
      show Steps p.tables e below (T117.setTop (mkF m 199 #[.val (.long av), .second, .val (.long cv), .second, .val (.int fv), .val (.int lv), .val (.ref b76), .val (.int (Int32.ofNat ov)), .val (.int (Int32.ofNat nv)), .val (.int (Int32.ofNat (ov + nv))), .val (.long ((own_S DV (ov + nv) nv) ||| ((Int32.ofNat nv).toInt64 <<< ((56 : Int32) &&& 0x3f).toInt64))), .second, .unset, .unset, .unset, .unset] [(.int (7 : Int32)), (.int (Int32.ofNat nv))])) _
      refine XS.icmpNo X117.here hx rfl (hb hby at_199) rfl (flt (fun q => absurd (h7.mp q) (by omega))).2.2.1 ?_
      show Steps p.tables e below (T117.setTop (mkF m 202 #[.val (.long av), .second, .val (.long cv), .second, .val (.int fv), .val (.int lv), .val (.ref b76), .val (.int (Int32.ofNat ov)), .val (.int (Int32.ofNat nv)), .val (.int (Int32.ofNat (ov + nv))), .val (.long ((own_S DV (ov + nv) nv) ||| ((Int32.ofNat nv).toInt64 <<< ((56 : Int32) &&& 0x3f).toInt64))), .second, .unset, .unset, .unset, .unset] [])) _
      exact kt
    have pre120 : ∀ t, Steps p.tables e below (T117.setTop (mkF m 215 #[.val (.long av), .second, .val (.long cv), .second, .val (.int fv), .val (.int lv), .val (.ref b76), .val (.int (Int32.ofNat ov)), .val (.int (Int32.ofNat nv)), .val (.int (Int32.ofNat (ov + nv))), .val (.long ((own_S DV (ov + nv) nv) ||| ((Int32.ofNat nv).toInt64 <<< ((56 : Int32) &&& 0x3f).toInt64))), .second, .unset, .unset, .unset, .unset] [(.int (0 : Int32)), (.int (Int32.ofNat nv)), (.int (Int32.ofNat ov)), (.ref b76), (.long (((Int32.ofNat nv).toInt64) <<< ((56 : Int32) &&& 0x3f).toInt64))])) t → Steps p.tables e below (s₁.setTop (entryFrame m #[(.long av), (.long cv), (.int fv), (.int lv)] maxLocals)) t := fun t kt => by
      refine pre119 _ ?_
      show Steps p.tables e below (T117.setTop (mkF m 202 #[.val (.long av), .second, .val (.long cv), .second, .val (.int fv), .val (.int lv), .val (.ref b76), .val (.int (Int32.ofNat ov)), .val (.int (Int32.ofNat nv)), .val (.int (Int32.ofNat (ov + nv))), .val (.long ((own_S DV (ov + nv) nv) ||| ((Int32.ofNat nv).toInt64 <<< ((56 : Int32) &&& 0x3f).toInt64))), .second, .unset, .unset, .unset, .unset] [])) _
      refine XS.iload X117.here hx rfl (hb hby at_202) rfl ?_
      show Steps p.tables e below (T117.setTop (mkF m 204 #[.val (.long av), .second, .val (.long cv), .second, .val (.int fv), .val (.int lv), .val (.ref b76), .val (.int (Int32.ofNat ov)), .val (.int (Int32.ofNat nv)), .val (.int (Int32.ofNat (ov + nv))), .val (.long ((own_S DV (ov + nv) nv) ||| ((Int32.ofNat nv).toInt64 <<< ((56 : Int32) &&& 0x3f).toInt64))), .second, .unset, .unset, .unset, .unset] [(.int (Int32.ofNat nv))])) _
      refine XS.i2l X117.here hx rfl (hb hby at_204) rfl ?_
      show Steps p.tables e below (T117.setTop (mkF m 205 #[.val (.long av), .second, .val (.long cv), .second, .val (.int fv), .val (.int lv), .val (.ref b76), .val (.int (Int32.ofNat ov)), .val (.int (Int32.ofNat nv)), .val (.int (Int32.ofNat (ov + nv))), .val (.long ((own_S DV (ov + nv) nv) ||| ((Int32.ofNat nv).toInt64 <<< ((56 : Int32) &&& 0x3f).toInt64))), .second, .unset, .unset, .unset, .unset] [(.long ((Int32.ofNat nv).toInt64))])) _
      refine XS.bipush X117.here hx rfl (hb hby at_205) ?_
      show Steps p.tables e below (T117.setTop (mkF m 207 #[.val (.long av), .second, .val (.long cv), .second, .val (.int fv), .val (.int lv), .val (.ref b76), .val (.int (Int32.ofNat ov)), .val (.int (Int32.ofNat nv)), .val (.int (Int32.ofNat (ov + nv))), .val (.long ((own_S DV (ov + nv) nv) ||| ((Int32.ofNat nv).toInt64 <<< ((56 : Int32) &&& 0x3f).toInt64))), .second, .unset, .unset, .unset, .unset] [(.int (56 : Int32)), (.long ((Int32.ofNat nv).toInt64))])) _
      refine XS.lshl X117.here hx rfl (hb hby at_207) rfl ?_
      show Steps p.tables e below (T117.setTop (mkF m 208 #[.val (.long av), .second, .val (.long cv), .second, .val (.int fv), .val (.int lv), .val (.ref b76), .val (.int (Int32.ofNat ov)), .val (.int (Int32.ofNat nv)), .val (.int (Int32.ofNat (ov + nv))), .val (.long ((own_S DV (ov + nv) nv) ||| ((Int32.ofNat nv).toInt64 <<< ((56 : Int32) &&& 0x3f).toInt64))), .second, .unset, .unset, .unset, .unset] [(.long (((Int32.ofNat nv).toInt64) <<< ((56 : Int32) &&& 0x3f).toInt64))])) _
      refine XS.aload X117.here hx rfl (hb hby at_208) rfl rfl ?_
      show Steps p.tables e below (T117.setTop (mkF m 210 #[.val (.long av), .second, .val (.long cv), .second, .val (.int fv), .val (.int lv), .val (.ref b76), .val (.int (Int32.ofNat ov)), .val (.int (Int32.ofNat nv)), .val (.int (Int32.ofNat (ov + nv))), .val (.long ((own_S DV (ov + nv) nv) ||| ((Int32.ofNat nv).toInt64 <<< ((56 : Int32) &&& 0x3f).toInt64))), .second, .unset, .unset, .unset, .unset] [(.ref b76), (.long (((Int32.ofNat nv).toInt64) <<< ((56 : Int32) &&& 0x3f).toInt64))])) _
      refine XS.iload X117.here hx rfl (hb hby at_210) rfl ?_
      show Steps p.tables e below (T117.setTop (mkF m 212 #[.val (.long av), .second, .val (.long cv), .second, .val (.int fv), .val (.int lv), .val (.ref b76), .val (.int (Int32.ofNat ov)), .val (.int (Int32.ofNat nv)), .val (.int (Int32.ofNat (ov + nv))), .val (.long ((own_S DV (ov + nv) nv) ||| ((Int32.ofNat nv).toInt64 <<< ((56 : Int32) &&& 0x3f).toInt64))), .second, .unset, .unset, .unset, .unset] [(.int (Int32.ofNat ov)), (.ref b76), (.long (((Int32.ofNat nv).toInt64) <<< ((56 : Int32) &&& 0x3f).toInt64))])) _
      refine XS.iload X117.here hx rfl (hb hby at_212) rfl ?_
      show Steps p.tables e below (T117.setTop (mkF m 214 #[.val (.long av), .second, .val (.long cv), .second, .val (.int fv), .val (.int lv), .val (.ref b76), .val (.int (Int32.ofNat ov)), .val (.int (Int32.ofNat nv)), .val (.int (Int32.ofNat (ov + nv))), .val (.long ((own_S DV (ov + nv) nv) ||| ((Int32.ofNat nv).toInt64 <<< ((56 : Int32) &&& 0x3f).toInt64))), .second, .unset, .unset, .unset, .unset] [(.int (Int32.ofNat nv)), (.int (Int32.ofNat ov)), (.ref b76), (.long (((Int32.ofNat nv).toInt64) <<< ((56 : Int32) &&& 0x3f).toInt64))])) _
      refine XS.iconst X117.here hx rfl (hb hby at_214) ?_
      show Steps p.tables e below (T117.setTop (mkF m 215 #[.val (.long av), .second, .val (.long cv), .second, .val (.int fv), .val (.int lv), .val (.ref b76), .val (.int (Int32.ofNat ov)), .val (.int (Int32.ofNat nv)), .val (.int (Int32.ofNat (ov + nv))), .val (.long ((own_S DV (ov + nv) nv) ||| ((Int32.ofNat nv).toInt64 <<< ((56 : Int32) &&& 0x3f).toInt64))), .second, .unset, .unset, .unset, .unset] [(.int (0 : Int32)), (.int (Int32.ofNat nv)), (.int (Int32.ofNat ov)), (.ref b76), (.long (((Int32.ofNat nv).toInt64) <<< ((56 : Int32) &&& 0x3f).toInt64))])) _
      exact kt
    obtain ⟨v121, _, ⟨T121, L121, k121, n121⟩, -, X121, ⟨Lc121, hQ121, l121, y121, z121⟩, st121⟩ := Jvm.LawKit.callS X117 hx (y := (⟨"com/example/attestry/attestry/ParticipantNamesKeyPinLaw", "part", "([BIII)J"⟩ : MethodName)) hown (mvT hZ (hw _ (List.mem_of_getElem? (i := 6) rfl))) (mvT hZ (hw _ (List.mem_of_getElem? (i := 7) rfl))) (mvT hZ (hw _ (List.mem_of_getElem? (i := 8) rfl))) (mvT hZ (hw _ (List.mem_of_getElem? (i := 9) rfl))) (by decide) (backOf (W := 2) (rm2 l Z aZ hw [] b76 ov nv 0 k76 vs DV T117.heap n0 Zs117 F117_0 hDV hon (by omega)) hZ (hw _ (List.mem_of_getElem? (i := 9) rfl)) (hw _ (List.mem_of_getElem? (i := 8) rfl)) (by decide) (by decide)) (g := (mkF m 215 #[.val (.long av), .second, .val (.long cv), .second, .val (.int fv), .val (.int lv), .val (.ref b76), .val (.int (Int32.ofNat ov)), .val (.int (Int32.ofNat nv)), .val (.int (Int32.ofNat (ov + nv))), .val (.long ((own_S DV (ov + nv) nv) ||| ((Int32.ofNat nv).toInt64 <<< ((56 : Int32) &&& 0x3f).toInt64))), .second, .unset, .unset, .unset, .unset] [(.int (0 : Int32)), (.int (Int32.ofNat nv)), (.int (Int32.ofNat ov)), (.ref b76), (.long (((Int32.ofNat nv).toInt64) <<< ((56 : Int32) &&& 0x3f).toInt64))])) rfl (by rw [hml]; rfl) (argsL := [(.ref b76), (.int (Int32.ofNat ov)), (.int (Int32.ofNat nv)), (.int (0 : Int32))]) (rest := [(.long (((Int32.ofNat nv).toInt64) <<< ((56 : Int32) &&& 0x3f).toInt64))]) (lenOf pd_1 rfl) rfl (by show 2 * 0 + _ ≤ _; exact Nat.le_of_eq rfl) (hb hby at_215) (fun _ _ => ⟨rfl, rfl, (by decide : 1 + 0 ≤ _), (by decide : 16 + 0 ≤ _)⟩)
    dsimp only [Pt.U, Pt.locs, Pt.cells, Pt.slots] at X121 l121 y121 z121 st121 hQ121
    rw [l121, y121, z121] at X121
    clear l121 y121 z121
    obtain ⟨vq121, N121q, e121⟩ := hQ121
    rw [vq121] at st121
    have N121 := Fr.app N117 N121q
    have pre121 : ∀ t, Steps p.tables e below (T121.setTop (mkF m 218 #[.val (.long av), .second, .val (.long cv), .second, .val (.int fv), .val (.int lv), .val (.ref b76), .val (.int (Int32.ofNat ov)), .val (.int (Int32.ofNat nv)), .val (.int (Int32.ofNat (ov + nv))), .val (.long ((own_S DV (ov + nv) nv) ||| ((Int32.ofNat nv).toInt64 <<< ((56 : Int32) &&& 0x3f).toInt64))), .second, .unset, .unset, .unset, .unset] [(.long (f2 ov nv 0 DV)), (.long (((Int32.ofNat nv).toInt64) <<< ((56 : Int32) &&& 0x3f).toInt64))])) t → Steps p.tables e below (s₁.setTop (entryFrame m #[(.long av), (.long cv), (.int fv), (.int lv)] maxLocals)) t := fun t kt => pre120 _ (st121 t kt)
    have pre122 : ∀ t, Steps p.tables e below (T121.setTop (mkF m 226 #[.val (.long av), .second, .val (.long cv), .second, .val (.int fv), .val (.int lv), .val (.ref b76), .val (.int (Int32.ofNat ov)), .val (.int (Int32.ofNat nv)), .val (.int (Int32.ofNat (ov + nv))), .val (.long ((own_S DV (ov + nv) nv) ||| ((Int32.ofNat nv).toInt64 <<< ((56 : Int32) &&& 0x3f).toInt64))), .second, .unset, .unset, .unset, .unset] [(.int (1 : Int32)), (.int (Int32.ofNat nv)), (.int (Int32.ofNat ov)), (.ref b76), (.long ((((Int32.ofNat nv).toInt64) <<< ((56 : Int32) &&& 0x3f).toInt64) + (f2 ov nv 0 DV)))])) t → Steps p.tables e below (s₁.setTop (entryFrame m #[(.long av), (.long cv), (.int fv), (.int lv)] maxLocals)) t := fun t kt => by
      refine pre121 _ ?_
      show Steps p.tables e below (T121.setTop (mkF m 218 #[.val (.long av), .second, .val (.long cv), .second, .val (.int fv), .val (.int lv), .val (.ref b76), .val (.int (Int32.ofNat ov)), .val (.int (Int32.ofNat nv)), .val (.int (Int32.ofNat (ov + nv))), .val (.long ((own_S DV (ov + nv) nv) ||| ((Int32.ofNat nv).toInt64 <<< ((56 : Int32) &&& 0x3f).toInt64))), .second, .unset, .unset, .unset, .unset] [(.long (f2 ov nv 0 DV)), (.long (((Int32.ofNat nv).toInt64) <<< ((56 : Int32) &&& 0x3f).toInt64))])) _
      refine XS.ladd X121.here hx rfl (hb hby at_218) rfl ?_
      show Steps p.tables e below (T121.setTop (mkF m 219 #[.val (.long av), .second, .val (.long cv), .second, .val (.int fv), .val (.int lv), .val (.ref b76), .val (.int (Int32.ofNat ov)), .val (.int (Int32.ofNat nv)), .val (.int (Int32.ofNat (ov + nv))), .val (.long ((own_S DV (ov + nv) nv) ||| ((Int32.ofNat nv).toInt64 <<< ((56 : Int32) &&& 0x3f).toInt64))), .second, .unset, .unset, .unset, .unset] [(.long ((((Int32.ofNat nv).toInt64) <<< ((56 : Int32) &&& 0x3f).toInt64) + (f2 ov nv 0 DV)))])) _
      refine XS.aload X121.here hx rfl (hb hby at_219) rfl rfl ?_
      show Steps p.tables e below (T121.setTop (mkF m 221 #[.val (.long av), .second, .val (.long cv), .second, .val (.int fv), .val (.int lv), .val (.ref b76), .val (.int (Int32.ofNat ov)), .val (.int (Int32.ofNat nv)), .val (.int (Int32.ofNat (ov + nv))), .val (.long ((own_S DV (ov + nv) nv) ||| ((Int32.ofNat nv).toInt64 <<< ((56 : Int32) &&& 0x3f).toInt64))), .second, .unset, .unset, .unset, .unset] [(.ref b76), (.long ((((Int32.ofNat nv).toInt64) <<< ((56 : Int32) &&& 0x3f).toInt64) + (f2 ov nv 0 DV)))])) _
      refine XS.iload X121.here hx rfl (hb hby at_221) rfl ?_
      show Steps p.tables e below (T121.setTop (mkF m 223 #[.val (.long av), .second, .val (.long cv), .second, .val (.int fv), .val (.int lv), .val (.ref b76), .val (.int (Int32.ofNat ov)), .val (.int (Int32.ofNat nv)), .val (.int (Int32.ofNat (ov + nv))), .val (.long ((own_S DV (ov + nv) nv) ||| ((Int32.ofNat nv).toInt64 <<< ((56 : Int32) &&& 0x3f).toInt64))), .second, .unset, .unset, .unset, .unset] [(.int (Int32.ofNat ov)), (.ref b76), (.long ((((Int32.ofNat nv).toInt64) <<< ((56 : Int32) &&& 0x3f).toInt64) + (f2 ov nv 0 DV)))])) _
      refine XS.iload X121.here hx rfl (hb hby at_223) rfl ?_
      show Steps p.tables e below (T121.setTop (mkF m 225 #[.val (.long av), .second, .val (.long cv), .second, .val (.int fv), .val (.int lv), .val (.ref b76), .val (.int (Int32.ofNat ov)), .val (.int (Int32.ofNat nv)), .val (.int (Int32.ofNat (ov + nv))), .val (.long ((own_S DV (ov + nv) nv) ||| ((Int32.ofNat nv).toInt64 <<< ((56 : Int32) &&& 0x3f).toInt64))), .second, .unset, .unset, .unset, .unset] [(.int (Int32.ofNat nv)), (.int (Int32.ofNat ov)), (.ref b76), (.long ((((Int32.ofNat nv).toInt64) <<< ((56 : Int32) &&& 0x3f).toInt64) + (f2 ov nv 0 DV)))])) _
      refine XS.iconst X121.here hx rfl (hb hby at_225) ?_
      show Steps p.tables e below (T121.setTop (mkF m 226 #[.val (.long av), .second, .val (.long cv), .second, .val (.int fv), .val (.int lv), .val (.ref b76), .val (.int (Int32.ofNat ov)), .val (.int (Int32.ofNat nv)), .val (.int (Int32.ofNat (ov + nv))), .val (.long ((own_S DV (ov + nv) nv) ||| ((Int32.ofNat nv).toInt64 <<< ((56 : Int32) &&& 0x3f).toInt64))), .second, .unset, .unset, .unset, .unset] [(.int (1 : Int32)), (.int (Int32.ofNat nv)), (.int (Int32.ofNat ov)), (.ref b76), (.long ((((Int32.ofNat nv).toInt64) <<< ((56 : Int32) &&& 0x3f).toInt64) + (f2 ov nv 0 DV)))])) _
      exact kt
    obtain ⟨v123, _, ⟨T123, L123, k123, n123⟩, -, X123, ⟨Lc123, hQ123, l123, y123, z123⟩, st123⟩ := Jvm.LawKit.callS X121 hx (y := (⟨"com/example/attestry/attestry/ParticipantNamesKeyPinLaw", "part", "([BIII)J"⟩ : MethodName)) hown (mvT hZ (hw _ (List.mem_of_getElem? (i := 6) rfl))) (mvT hZ (hw _ (List.mem_of_getElem? (i := 7) rfl))) (mvT hZ (hw _ (List.mem_of_getElem? (i := 8) rfl))) (mvT hZ (hw _ (List.mem_of_getElem? (i := 9) rfl))) (by decide) (backOf (W := 2) (rm2 l Z aZ hw [] b76 ov nv 1 k76 vs DV T117.heap n0 Zs117 F117_0 hDV hon (by omega)) hZ (hw _ (List.mem_of_getElem? (i := 9) rfl)) (hw _ (List.mem_of_getElem? (i := 8) rfl)) (by decide) (by decide)) (g := (mkF m 226 #[.val (.long av), .second, .val (.long cv), .second, .val (.int fv), .val (.int lv), .val (.ref b76), .val (.int (Int32.ofNat ov)), .val (.int (Int32.ofNat nv)), .val (.int (Int32.ofNat (ov + nv))), .val (.long ((own_S DV (ov + nv) nv) ||| ((Int32.ofNat nv).toInt64 <<< ((56 : Int32) &&& 0x3f).toInt64))), .second, .unset, .unset, .unset, .unset] [(.int (1 : Int32)), (.int (Int32.ofNat nv)), (.int (Int32.ofNat ov)), (.ref b76), (.long ((((Int32.ofNat nv).toInt64) <<< ((56 : Int32) &&& 0x3f).toInt64) + (f2 ov nv 0 DV)))])) rfl (by rw [hml]; rfl) (argsL := [(.ref b76), (.int (Int32.ofNat ov)), (.int (Int32.ofNat nv)), (.int (1 : Int32))]) (rest := [(.long ((((Int32.ofNat nv).toInt64) <<< ((56 : Int32) &&& 0x3f).toInt64) + (f2 ov nv 0 DV)))]) (lenOf pd_1 rfl) rfl (by show 2 * 0 + _ ≤ _; exact Nat.le_of_eq rfl) (hb hby at_226) (fun _ _ => ⟨rfl, e121, (by decide : 1 + 0 ≤ _), (by decide : 16 + 0 ≤ _)⟩)
    dsimp only [Pt.U, Pt.locs, Pt.cells, Pt.slots] at X123 l123 y123 z123 st123 hQ123
    rw [l123, y123, z123] at X123
    clear l123 y123 z123
    obtain ⟨vq123, N123q, e123⟩ := hQ123
    rw [vq123] at st123
    have N123 := Fr.app N121 N123q
    have pre123 : ∀ t, Steps p.tables e below (T123.setTop (mkF m 229 #[.val (.long av), .second, .val (.long cv), .second, .val (.int fv), .val (.int lv), .val (.ref b76), .val (.int (Int32.ofNat ov)), .val (.int (Int32.ofNat nv)), .val (.int (Int32.ofNat (ov + nv))), .val (.long ((own_S DV (ov + nv) nv) ||| ((Int32.ofNat nv).toInt64 <<< ((56 : Int32) &&& 0x3f).toInt64))), .second, .unset, .unset, .unset, .unset] [(.long (f2 ov nv 1 DV)), (.long ((((Int32.ofNat nv).toInt64) <<< ((56 : Int32) &&& 0x3f).toInt64) + (f2 ov nv 0 DV)))])) t → Steps p.tables e below (s₁.setTop (entryFrame m #[(.long av), (.long cv), (.int fv), (.int lv)] maxLocals)) t := fun t kt => pre122 _ (st123 t kt)
    have pre124 : ∀ t, Steps p.tables e below (T123.setTop (mkF m 237 #[.val (.long av), .second, .val (.long cv), .second, .val (.int fv), .val (.int lv), .val (.ref b76), .val (.int (Int32.ofNat ov)), .val (.int (Int32.ofNat nv)), .val (.int (Int32.ofNat (ov + nv))), .val (.long ((own_S DV (ov + nv) nv) ||| ((Int32.ofNat nv).toInt64 <<< ((56 : Int32) &&& 0x3f).toInt64))), .second, .unset, .unset, .unset, .unset] [(.int (2 : Int32)), (.int (Int32.ofNat nv)), (.int (Int32.ofNat ov)), (.ref b76), (.long (((((Int32.ofNat nv).toInt64) <<< ((56 : Int32) &&& 0x3f).toInt64) + (f2 ov nv 0 DV)) + (f2 ov nv 1 DV)))])) t → Steps p.tables e below (s₁.setTop (entryFrame m #[(.long av), (.long cv), (.int fv), (.int lv)] maxLocals)) t := fun t kt => by
      refine pre123 _ ?_
      show Steps p.tables e below (T123.setTop (mkF m 229 #[.val (.long av), .second, .val (.long cv), .second, .val (.int fv), .val (.int lv), .val (.ref b76), .val (.int (Int32.ofNat ov)), .val (.int (Int32.ofNat nv)), .val (.int (Int32.ofNat (ov + nv))), .val (.long ((own_S DV (ov + nv) nv) ||| ((Int32.ofNat nv).toInt64 <<< ((56 : Int32) &&& 0x3f).toInt64))), .second, .unset, .unset, .unset, .unset] [(.long (f2 ov nv 1 DV)), (.long ((((Int32.ofNat nv).toInt64) <<< ((56 : Int32) &&& 0x3f).toInt64) + (f2 ov nv 0 DV)))])) _
      refine XS.ladd X123.here hx rfl (hb hby at_229) rfl ?_
      show Steps p.tables e below (T123.setTop (mkF m 230 #[.val (.long av), .second, .val (.long cv), .second, .val (.int fv), .val (.int lv), .val (.ref b76), .val (.int (Int32.ofNat ov)), .val (.int (Int32.ofNat nv)), .val (.int (Int32.ofNat (ov + nv))), .val (.long ((own_S DV (ov + nv) nv) ||| ((Int32.ofNat nv).toInt64 <<< ((56 : Int32) &&& 0x3f).toInt64))), .second, .unset, .unset, .unset, .unset] [(.long (((((Int32.ofNat nv).toInt64) <<< ((56 : Int32) &&& 0x3f).toInt64) + (f2 ov nv 0 DV)) + (f2 ov nv 1 DV)))])) _
      refine XS.aload X123.here hx rfl (hb hby at_230) rfl rfl ?_
      show Steps p.tables e below (T123.setTop (mkF m 232 #[.val (.long av), .second, .val (.long cv), .second, .val (.int fv), .val (.int lv), .val (.ref b76), .val (.int (Int32.ofNat ov)), .val (.int (Int32.ofNat nv)), .val (.int (Int32.ofNat (ov + nv))), .val (.long ((own_S DV (ov + nv) nv) ||| ((Int32.ofNat nv).toInt64 <<< ((56 : Int32) &&& 0x3f).toInt64))), .second, .unset, .unset, .unset, .unset] [(.ref b76), (.long (((((Int32.ofNat nv).toInt64) <<< ((56 : Int32) &&& 0x3f).toInt64) + (f2 ov nv 0 DV)) + (f2 ov nv 1 DV)))])) _
      refine XS.iload X123.here hx rfl (hb hby at_232) rfl ?_
      show Steps p.tables e below (T123.setTop (mkF m 234 #[.val (.long av), .second, .val (.long cv), .second, .val (.int fv), .val (.int lv), .val (.ref b76), .val (.int (Int32.ofNat ov)), .val (.int (Int32.ofNat nv)), .val (.int (Int32.ofNat (ov + nv))), .val (.long ((own_S DV (ov + nv) nv) ||| ((Int32.ofNat nv).toInt64 <<< ((56 : Int32) &&& 0x3f).toInt64))), .second, .unset, .unset, .unset, .unset] [(.int (Int32.ofNat ov)), (.ref b76), (.long (((((Int32.ofNat nv).toInt64) <<< ((56 : Int32) &&& 0x3f).toInt64) + (f2 ov nv 0 DV)) + (f2 ov nv 1 DV)))])) _
      refine XS.iload X123.here hx rfl (hb hby at_234) rfl ?_
      show Steps p.tables e below (T123.setTop (mkF m 236 #[.val (.long av), .second, .val (.long cv), .second, .val (.int fv), .val (.int lv), .val (.ref b76), .val (.int (Int32.ofNat ov)), .val (.int (Int32.ofNat nv)), .val (.int (Int32.ofNat (ov + nv))), .val (.long ((own_S DV (ov + nv) nv) ||| ((Int32.ofNat nv).toInt64 <<< ((56 : Int32) &&& 0x3f).toInt64))), .second, .unset, .unset, .unset, .unset] [(.int (Int32.ofNat nv)), (.int (Int32.ofNat ov)), (.ref b76), (.long (((((Int32.ofNat nv).toInt64) <<< ((56 : Int32) &&& 0x3f).toInt64) + (f2 ov nv 0 DV)) + (f2 ov nv 1 DV)))])) _
      refine XS.iconst X123.here hx rfl (hb hby at_236) ?_
      show Steps p.tables e below (T123.setTop (mkF m 237 #[.val (.long av), .second, .val (.long cv), .second, .val (.int fv), .val (.int lv), .val (.ref b76), .val (.int (Int32.ofNat ov)), .val (.int (Int32.ofNat nv)), .val (.int (Int32.ofNat (ov + nv))), .val (.long ((own_S DV (ov + nv) nv) ||| ((Int32.ofNat nv).toInt64 <<< ((56 : Int32) &&& 0x3f).toInt64))), .second, .unset, .unset, .unset, .unset] [(.int (2 : Int32)), (.int (Int32.ofNat nv)), (.int (Int32.ofNat ov)), (.ref b76), (.long (((((Int32.ofNat nv).toInt64) <<< ((56 : Int32) &&& 0x3f).toInt64) + (f2 ov nv 0 DV)) + (f2 ov nv 1 DV)))])) _
      exact kt
    obtain ⟨v125, _, ⟨T125, L125, k125, n125⟩, -, X125, ⟨Lc125, hQ125, l125, y125, z125⟩, st125⟩ := Jvm.LawKit.callS X123 hx (y := (⟨"com/example/attestry/attestry/ParticipantNamesKeyPinLaw", "part", "([BIII)J"⟩ : MethodName)) hown (mvT hZ (hw _ (List.mem_of_getElem? (i := 6) rfl))) (mvT hZ (hw _ (List.mem_of_getElem? (i := 7) rfl))) (mvT hZ (hw _ (List.mem_of_getElem? (i := 8) rfl))) (mvT hZ (hw _ (List.mem_of_getElem? (i := 9) rfl))) (by decide) (backOf (W := 2) (rm2 l Z aZ hw [] b76 ov nv 2 k76 vs DV T117.heap n0 Zs117 F117_0 hDV hon (by omega)) hZ (hw _ (List.mem_of_getElem? (i := 9) rfl)) (hw _ (List.mem_of_getElem? (i := 8) rfl)) (by decide) (by decide)) (g := (mkF m 237 #[.val (.long av), .second, .val (.long cv), .second, .val (.int fv), .val (.int lv), .val (.ref b76), .val (.int (Int32.ofNat ov)), .val (.int (Int32.ofNat nv)), .val (.int (Int32.ofNat (ov + nv))), .val (.long ((own_S DV (ov + nv) nv) ||| ((Int32.ofNat nv).toInt64 <<< ((56 : Int32) &&& 0x3f).toInt64))), .second, .unset, .unset, .unset, .unset] [(.int (2 : Int32)), (.int (Int32.ofNat nv)), (.int (Int32.ofNat ov)), (.ref b76), (.long (((((Int32.ofNat nv).toInt64) <<< ((56 : Int32) &&& 0x3f).toInt64) + (f2 ov nv 0 DV)) + (f2 ov nv 1 DV)))])) rfl (by rw [hml]; rfl) (argsL := [(.ref b76), (.int (Int32.ofNat ov)), (.int (Int32.ofNat nv)), (.int (2 : Int32))]) (rest := [(.long (((((Int32.ofNat nv).toInt64) <<< ((56 : Int32) &&& 0x3f).toInt64) + (f2 ov nv 0 DV)) + (f2 ov nv 1 DV)))]) (lenOf pd_1 rfl) rfl (by show 2 * 0 + _ ≤ _; exact Nat.le_of_eq rfl) (hb hby at_237) (fun _ _ => ⟨rfl, e123, (by decide : 1 + 0 ≤ _), (by decide : 16 + 0 ≤ _)⟩)
    dsimp only [Pt.U, Pt.locs, Pt.cells, Pt.slots] at X125 l125 y125 z125 st125 hQ125
    rw [l125, y125, z125] at X125
    clear l125 y125 z125
    obtain ⟨vq125, N125q, e125⟩ := hQ125
    rw [vq125] at st125
    have N125 := Fr.app N123 N125q
    have pre125 : ∀ t, Steps p.tables e below (T125.setTop (mkF m 240 #[.val (.long av), .second, .val (.long cv), .second, .val (.int fv), .val (.int lv), .val (.ref b76), .val (.int (Int32.ofNat ov)), .val (.int (Int32.ofNat nv)), .val (.int (Int32.ofNat (ov + nv))), .val (.long ((own_S DV (ov + nv) nv) ||| ((Int32.ofNat nv).toInt64 <<< ((56 : Int32) &&& 0x3f).toInt64))), .second, .unset, .unset, .unset, .unset] [(.long (f2 ov nv 2 DV)), (.long (((((Int32.ofNat nv).toInt64) <<< ((56 : Int32) &&& 0x3f).toInt64) + (f2 ov nv 0 DV)) + (f2 ov nv 1 DV)))])) t → Steps p.tables e below (s₁.setTop (entryFrame m #[(.long av), (.long cv), (.int fv), (.int lv)] maxLocals)) t := fun t kt => pre124 _ (st125 t kt)
    have pre126 : ∀ t, Steps p.tables e below (T125.setTop (mkF m 248 #[.val (.long av), .second, .val (.long cv), .second, .val (.int fv), .val (.int lv), .val (.ref b76), .val (.int (Int32.ofNat ov)), .val (.int (Int32.ofNat nv)), .val (.int (Int32.ofNat (ov + nv))), .val (.long ((own_S DV (ov + nv) nv) ||| ((Int32.ofNat nv).toInt64 <<< ((56 : Int32) &&& 0x3f).toInt64))), .second, .unset, .unset, .unset, .unset] [(.int (3 : Int32)), (.int (Int32.ofNat nv)), (.int (Int32.ofNat ov)), (.ref b76), (.long ((((((Int32.ofNat nv).toInt64) <<< ((56 : Int32) &&& 0x3f).toInt64) + (f2 ov nv 0 DV)) + (f2 ov nv 1 DV)) + (f2 ov nv 2 DV)))])) t → Steps p.tables e below (s₁.setTop (entryFrame m #[(.long av), (.long cv), (.int fv), (.int lv)] maxLocals)) t := fun t kt => by
      refine pre125 _ ?_
      show Steps p.tables e below (T125.setTop (mkF m 240 #[.val (.long av), .second, .val (.long cv), .second, .val (.int fv), .val (.int lv), .val (.ref b76), .val (.int (Int32.ofNat ov)), .val (.int (Int32.ofNat nv)), .val (.int (Int32.ofNat (ov + nv))), .val (.long ((own_S DV (ov + nv) nv) ||| ((Int32.ofNat nv).toInt64 <<< ((56 : Int32) &&& 0x3f).toInt64))), .second, .unset, .unset, .unset, .unset] [(.long (f2 ov nv 2 DV)), (.long (((((Int32.ofNat nv).toInt64) <<< ((56 : Int32) &&& 0x3f).toInt64) + (f2 ov nv 0 DV)) + (f2 ov nv 1 DV)))])) _
      refine XS.ladd X125.here hx rfl (hb hby at_240) rfl ?_
      show Steps p.tables e below (T125.setTop (mkF m 241 #[.val (.long av), .second, .val (.long cv), .second, .val (.int fv), .val (.int lv), .val (.ref b76), .val (.int (Int32.ofNat ov)), .val (.int (Int32.ofNat nv)), .val (.int (Int32.ofNat (ov + nv))), .val (.long ((own_S DV (ov + nv) nv) ||| ((Int32.ofNat nv).toInt64 <<< ((56 : Int32) &&& 0x3f).toInt64))), .second, .unset, .unset, .unset, .unset] [(.long ((((((Int32.ofNat nv).toInt64) <<< ((56 : Int32) &&& 0x3f).toInt64) + (f2 ov nv 0 DV)) + (f2 ov nv 1 DV)) + (f2 ov nv 2 DV)))])) _
      refine XS.aload X125.here hx rfl (hb hby at_241) rfl rfl ?_
      show Steps p.tables e below (T125.setTop (mkF m 243 #[.val (.long av), .second, .val (.long cv), .second, .val (.int fv), .val (.int lv), .val (.ref b76), .val (.int (Int32.ofNat ov)), .val (.int (Int32.ofNat nv)), .val (.int (Int32.ofNat (ov + nv))), .val (.long ((own_S DV (ov + nv) nv) ||| ((Int32.ofNat nv).toInt64 <<< ((56 : Int32) &&& 0x3f).toInt64))), .second, .unset, .unset, .unset, .unset] [(.ref b76), (.long ((((((Int32.ofNat nv).toInt64) <<< ((56 : Int32) &&& 0x3f).toInt64) + (f2 ov nv 0 DV)) + (f2 ov nv 1 DV)) + (f2 ov nv 2 DV)))])) _
      refine XS.iload X125.here hx rfl (hb hby at_243) rfl ?_
      show Steps p.tables e below (T125.setTop (mkF m 245 #[.val (.long av), .second, .val (.long cv), .second, .val (.int fv), .val (.int lv), .val (.ref b76), .val (.int (Int32.ofNat ov)), .val (.int (Int32.ofNat nv)), .val (.int (Int32.ofNat (ov + nv))), .val (.long ((own_S DV (ov + nv) nv) ||| ((Int32.ofNat nv).toInt64 <<< ((56 : Int32) &&& 0x3f).toInt64))), .second, .unset, .unset, .unset, .unset] [(.int (Int32.ofNat ov)), (.ref b76), (.long ((((((Int32.ofNat nv).toInt64) <<< ((56 : Int32) &&& 0x3f).toInt64) + (f2 ov nv 0 DV)) + (f2 ov nv 1 DV)) + (f2 ov nv 2 DV)))])) _
      refine XS.iload X125.here hx rfl (hb hby at_245) rfl ?_
      show Steps p.tables e below (T125.setTop (mkF m 247 #[.val (.long av), .second, .val (.long cv), .second, .val (.int fv), .val (.int lv), .val (.ref b76), .val (.int (Int32.ofNat ov)), .val (.int (Int32.ofNat nv)), .val (.int (Int32.ofNat (ov + nv))), .val (.long ((own_S DV (ov + nv) nv) ||| ((Int32.ofNat nv).toInt64 <<< ((56 : Int32) &&& 0x3f).toInt64))), .second, .unset, .unset, .unset, .unset] [(.int (Int32.ofNat nv)), (.int (Int32.ofNat ov)), (.ref b76), (.long ((((((Int32.ofNat nv).toInt64) <<< ((56 : Int32) &&& 0x3f).toInt64) + (f2 ov nv 0 DV)) + (f2 ov nv 1 DV)) + (f2 ov nv 2 DV)))])) _
      refine XS.iconst X125.here hx rfl (hb hby at_247) ?_
      show Steps p.tables e below (T125.setTop (mkF m 248 #[.val (.long av), .second, .val (.long cv), .second, .val (.int fv), .val (.int lv), .val (.ref b76), .val (.int (Int32.ofNat ov)), .val (.int (Int32.ofNat nv)), .val (.int (Int32.ofNat (ov + nv))), .val (.long ((own_S DV (ov + nv) nv) ||| ((Int32.ofNat nv).toInt64 <<< ((56 : Int32) &&& 0x3f).toInt64))), .second, .unset, .unset, .unset, .unset] [(.int (3 : Int32)), (.int (Int32.ofNat nv)), (.int (Int32.ofNat ov)), (.ref b76), (.long ((((((Int32.ofNat nv).toInt64) <<< ((56 : Int32) &&& 0x3f).toInt64) + (f2 ov nv 0 DV)) + (f2 ov nv 1 DV)) + (f2 ov nv 2 DV)))])) _
      exact kt
    obtain ⟨v127, _, ⟨T127, L127, k127, n127⟩, -, X127, ⟨Lc127, hQ127, l127, y127, z127⟩, st127⟩ := Jvm.LawKit.callS X125 hx (y := (⟨"com/example/attestry/attestry/ParticipantNamesKeyPinLaw", "part", "([BIII)J"⟩ : MethodName)) hown (mvT hZ (hw _ (List.mem_of_getElem? (i := 6) rfl))) (mvT hZ (hw _ (List.mem_of_getElem? (i := 7) rfl))) (mvT hZ (hw _ (List.mem_of_getElem? (i := 8) rfl))) (mvT hZ (hw _ (List.mem_of_getElem? (i := 9) rfl))) (by decide) (backOf (W := 2) (rm2 l Z aZ hw [] b76 ov nv 3 k76 vs DV T117.heap n0 Zs117 F117_0 hDV hon (by omega)) hZ (hw _ (List.mem_of_getElem? (i := 9) rfl)) (hw _ (List.mem_of_getElem? (i := 8) rfl)) (by decide) (by decide)) (g := (mkF m 248 #[.val (.long av), .second, .val (.long cv), .second, .val (.int fv), .val (.int lv), .val (.ref b76), .val (.int (Int32.ofNat ov)), .val (.int (Int32.ofNat nv)), .val (.int (Int32.ofNat (ov + nv))), .val (.long ((own_S DV (ov + nv) nv) ||| ((Int32.ofNat nv).toInt64 <<< ((56 : Int32) &&& 0x3f).toInt64))), .second, .unset, .unset, .unset, .unset] [(.int (3 : Int32)), (.int (Int32.ofNat nv)), (.int (Int32.ofNat ov)), (.ref b76), (.long ((((((Int32.ofNat nv).toInt64) <<< ((56 : Int32) &&& 0x3f).toInt64) + (f2 ov nv 0 DV)) + (f2 ov nv 1 DV)) + (f2 ov nv 2 DV)))])) rfl (by rw [hml]; rfl) (argsL := [(.ref b76), (.int (Int32.ofNat ov)), (.int (Int32.ofNat nv)), (.int (3 : Int32))]) (rest := [(.long ((((((Int32.ofNat nv).toInt64) <<< ((56 : Int32) &&& 0x3f).toInt64) + (f2 ov nv 0 DV)) + (f2 ov nv 1 DV)) + (f2 ov nv 2 DV)))]) (lenOf pd_1 rfl) rfl (by show 2 * 0 + _ ≤ _; exact Nat.le_of_eq rfl) (hb hby at_248) (fun _ _ => ⟨rfl, e125, (by decide : 1 + 0 ≤ _), (by decide : 16 + 0 ≤ _)⟩)
    dsimp only [Pt.U, Pt.locs, Pt.cells, Pt.slots] at X127 l127 y127 z127 st127 hQ127
    rw [l127, y127, z127] at X127
    clear l127 y127 z127
    obtain ⟨vq127, N127q, e127⟩ := hQ127
    rw [vq127] at st127
    have N127 := Fr.app N125 N127q
    have pre127 : ∀ t, Steps p.tables e below (T127.setTop (mkF m 251 #[.val (.long av), .second, .val (.long cv), .second, .val (.int fv), .val (.int lv), .val (.ref b76), .val (.int (Int32.ofNat ov)), .val (.int (Int32.ofNat nv)), .val (.int (Int32.ofNat (ov + nv))), .val (.long ((own_S DV (ov + nv) nv) ||| ((Int32.ofNat nv).toInt64 <<< ((56 : Int32) &&& 0x3f).toInt64))), .second, .unset, .unset, .unset, .unset] [(.long (f2 ov nv 3 DV)), (.long ((((((Int32.ofNat nv).toInt64) <<< ((56 : Int32) &&& 0x3f).toInt64) + (f2 ov nv 0 DV)) + (f2 ov nv 1 DV)) + (f2 ov nv 2 DV)))])) t → Steps p.tables e below (s₁.setTop (entryFrame m #[(.long av), (.long cv), (.int fv), (.int lv)] maxLocals)) t := fun t kt => pre126 _ (st127 t kt)
    have pre128 : ∀ t, Steps p.tables e below (T127.setTop (mkF m 259 #[.val (.long av), .second, .val (.long cv), .second, .val (.int fv), .val (.int lv), .val (.ref b76), .val (.int (Int32.ofNat ov)), .val (.int (Int32.ofNat nv)), .val (.int (Int32.ofNat (ov + nv))), .val (.long ((own_S DV (ov + nv) nv) ||| ((Int32.ofNat nv).toInt64 <<< ((56 : Int32) &&& 0x3f).toInt64))), .second, .unset, .unset, .unset, .unset] [(.int (4 : Int32)), (.int (Int32.ofNat nv)), (.int (Int32.ofNat ov)), (.ref b76), (.long (((((((Int32.ofNat nv).toInt64) <<< ((56 : Int32) &&& 0x3f).toInt64) + (f2 ov nv 0 DV)) + (f2 ov nv 1 DV)) + (f2 ov nv 2 DV)) + (f2 ov nv 3 DV)))])) t → Steps p.tables e below (s₁.setTop (entryFrame m #[(.long av), (.long cv), (.int fv), (.int lv)] maxLocals)) t := fun t kt => by
      refine pre127 _ ?_
      show Steps p.tables e below (T127.setTop (mkF m 251 #[.val (.long av), .second, .val (.long cv), .second, .val (.int fv), .val (.int lv), .val (.ref b76), .val (.int (Int32.ofNat ov)), .val (.int (Int32.ofNat nv)), .val (.int (Int32.ofNat (ov + nv))), .val (.long ((own_S DV (ov + nv) nv) ||| ((Int32.ofNat nv).toInt64 <<< ((56 : Int32) &&& 0x3f).toInt64))), .second, .unset, .unset, .unset, .unset] [(.long (f2 ov nv 3 DV)), (.long ((((((Int32.ofNat nv).toInt64) <<< ((56 : Int32) &&& 0x3f).toInt64) + (f2 ov nv 0 DV)) + (f2 ov nv 1 DV)) + (f2 ov nv 2 DV)))])) _
      refine XS.ladd X127.here hx rfl (hb hby at_251) rfl ?_
      show Steps p.tables e below (T127.setTop (mkF m 252 #[.val (.long av), .second, .val (.long cv), .second, .val (.int fv), .val (.int lv), .val (.ref b76), .val (.int (Int32.ofNat ov)), .val (.int (Int32.ofNat nv)), .val (.int (Int32.ofNat (ov + nv))), .val (.long ((own_S DV (ov + nv) nv) ||| ((Int32.ofNat nv).toInt64 <<< ((56 : Int32) &&& 0x3f).toInt64))), .second, .unset, .unset, .unset, .unset] [(.long (((((((Int32.ofNat nv).toInt64) <<< ((56 : Int32) &&& 0x3f).toInt64) + (f2 ov nv 0 DV)) + (f2 ov nv 1 DV)) + (f2 ov nv 2 DV)) + (f2 ov nv 3 DV)))])) _
      refine XS.aload X127.here hx rfl (hb hby at_252) rfl rfl ?_
      show Steps p.tables e below (T127.setTop (mkF m 254 #[.val (.long av), .second, .val (.long cv), .second, .val (.int fv), .val (.int lv), .val (.ref b76), .val (.int (Int32.ofNat ov)), .val (.int (Int32.ofNat nv)), .val (.int (Int32.ofNat (ov + nv))), .val (.long ((own_S DV (ov + nv) nv) ||| ((Int32.ofNat nv).toInt64 <<< ((56 : Int32) &&& 0x3f).toInt64))), .second, .unset, .unset, .unset, .unset] [(.ref b76), (.long (((((((Int32.ofNat nv).toInt64) <<< ((56 : Int32) &&& 0x3f).toInt64) + (f2 ov nv 0 DV)) + (f2 ov nv 1 DV)) + (f2 ov nv 2 DV)) + (f2 ov nv 3 DV)))])) _
      refine XS.iload X127.here hx rfl (hb hby at_254) rfl ?_
      show Steps p.tables e below (T127.setTop (mkF m 256 #[.val (.long av), .second, .val (.long cv), .second, .val (.int fv), .val (.int lv), .val (.ref b76), .val (.int (Int32.ofNat ov)), .val (.int (Int32.ofNat nv)), .val (.int (Int32.ofNat (ov + nv))), .val (.long ((own_S DV (ov + nv) nv) ||| ((Int32.ofNat nv).toInt64 <<< ((56 : Int32) &&& 0x3f).toInt64))), .second, .unset, .unset, .unset, .unset] [(.int (Int32.ofNat ov)), (.ref b76), (.long (((((((Int32.ofNat nv).toInt64) <<< ((56 : Int32) &&& 0x3f).toInt64) + (f2 ov nv 0 DV)) + (f2 ov nv 1 DV)) + (f2 ov nv 2 DV)) + (f2 ov nv 3 DV)))])) _
      refine XS.iload X127.here hx rfl (hb hby at_256) rfl ?_
      show Steps p.tables e below (T127.setTop (mkF m 258 #[.val (.long av), .second, .val (.long cv), .second, .val (.int fv), .val (.int lv), .val (.ref b76), .val (.int (Int32.ofNat ov)), .val (.int (Int32.ofNat nv)), .val (.int (Int32.ofNat (ov + nv))), .val (.long ((own_S DV (ov + nv) nv) ||| ((Int32.ofNat nv).toInt64 <<< ((56 : Int32) &&& 0x3f).toInt64))), .second, .unset, .unset, .unset, .unset] [(.int (Int32.ofNat nv)), (.int (Int32.ofNat ov)), (.ref b76), (.long (((((((Int32.ofNat nv).toInt64) <<< ((56 : Int32) &&& 0x3f).toInt64) + (f2 ov nv 0 DV)) + (f2 ov nv 1 DV)) + (f2 ov nv 2 DV)) + (f2 ov nv 3 DV)))])) _
      refine XS.iconst X127.here hx rfl (hb hby at_258) ?_
      show Steps p.tables e below (T127.setTop (mkF m 259 #[.val (.long av), .second, .val (.long cv), .second, .val (.int fv), .val (.int lv), .val (.ref b76), .val (.int (Int32.ofNat ov)), .val (.int (Int32.ofNat nv)), .val (.int (Int32.ofNat (ov + nv))), .val (.long ((own_S DV (ov + nv) nv) ||| ((Int32.ofNat nv).toInt64 <<< ((56 : Int32) &&& 0x3f).toInt64))), .second, .unset, .unset, .unset, .unset] [(.int (4 : Int32)), (.int (Int32.ofNat nv)), (.int (Int32.ofNat ov)), (.ref b76), (.long (((((((Int32.ofNat nv).toInt64) <<< ((56 : Int32) &&& 0x3f).toInt64) + (f2 ov nv 0 DV)) + (f2 ov nv 1 DV)) + (f2 ov nv 2 DV)) + (f2 ov nv 3 DV)))])) _
      exact kt
    obtain ⟨v129, _, ⟨T129, L129, k129, n129⟩, -, X129, ⟨Lc129, hQ129, l129, y129, z129⟩, st129⟩ := Jvm.LawKit.callS X127 hx (y := (⟨"com/example/attestry/attestry/ParticipantNamesKeyPinLaw", "part", "([BIII)J"⟩ : MethodName)) hown (mvT hZ (hw _ (List.mem_of_getElem? (i := 6) rfl))) (mvT hZ (hw _ (List.mem_of_getElem? (i := 7) rfl))) (mvT hZ (hw _ (List.mem_of_getElem? (i := 8) rfl))) (mvT hZ (hw _ (List.mem_of_getElem? (i := 9) rfl))) (by decide) (backOf (W := 2) (rm2 l Z aZ hw [] b76 ov nv 4 k76 vs DV T117.heap n0 Zs117 F117_0 hDV hon (by omega)) hZ (hw _ (List.mem_of_getElem? (i := 9) rfl)) (hw _ (List.mem_of_getElem? (i := 8) rfl)) (by decide) (by decide)) (g := (mkF m 259 #[.val (.long av), .second, .val (.long cv), .second, .val (.int fv), .val (.int lv), .val (.ref b76), .val (.int (Int32.ofNat ov)), .val (.int (Int32.ofNat nv)), .val (.int (Int32.ofNat (ov + nv))), .val (.long ((own_S DV (ov + nv) nv) ||| ((Int32.ofNat nv).toInt64 <<< ((56 : Int32) &&& 0x3f).toInt64))), .second, .unset, .unset, .unset, .unset] [(.int (4 : Int32)), (.int (Int32.ofNat nv)), (.int (Int32.ofNat ov)), (.ref b76), (.long (((((((Int32.ofNat nv).toInt64) <<< ((56 : Int32) &&& 0x3f).toInt64) + (f2 ov nv 0 DV)) + (f2 ov nv 1 DV)) + (f2 ov nv 2 DV)) + (f2 ov nv 3 DV)))])) rfl (by rw [hml]; rfl) (argsL := [(.ref b76), (.int (Int32.ofNat ov)), (.int (Int32.ofNat nv)), (.int (4 : Int32))]) (rest := [(.long (((((((Int32.ofNat nv).toInt64) <<< ((56 : Int32) &&& 0x3f).toInt64) + (f2 ov nv 0 DV)) + (f2 ov nv 1 DV)) + (f2 ov nv 2 DV)) + (f2 ov nv 3 DV)))]) (lenOf pd_1 rfl) rfl (by show 2 * 0 + _ ≤ _; exact Nat.le_of_eq rfl) (hb hby at_259) (fun _ _ => ⟨rfl, e127, (by decide : 1 + 0 ≤ _), (by decide : 16 + 0 ≤ _)⟩)
    dsimp only [Pt.U, Pt.locs, Pt.cells, Pt.slots] at X129 l129 y129 z129 st129 hQ129
    rw [l129, y129, z129] at X129
    clear l129 y129 z129
    obtain ⟨vq129, N129q, e129⟩ := hQ129
    rw [vq129] at st129
    have N129 := Fr.app N127 N129q
    have pre129 : ∀ t, Steps p.tables e below (T129.setTop (mkF m 262 #[.val (.long av), .second, .val (.long cv), .second, .val (.int fv), .val (.int lv), .val (.ref b76), .val (.int (Int32.ofNat ov)), .val (.int (Int32.ofNat nv)), .val (.int (Int32.ofNat (ov + nv))), .val (.long ((own_S DV (ov + nv) nv) ||| ((Int32.ofNat nv).toInt64 <<< ((56 : Int32) &&& 0x3f).toInt64))), .second, .unset, .unset, .unset, .unset] [(.long (f2 ov nv 4 DV)), (.long (((((((Int32.ofNat nv).toInt64) <<< ((56 : Int32) &&& 0x3f).toInt64) + (f2 ov nv 0 DV)) + (f2 ov nv 1 DV)) + (f2 ov nv 2 DV)) + (f2 ov nv 3 DV)))])) t → Steps p.tables e below (s₁.setTop (entryFrame m #[(.long av), (.long cv), (.int fv), (.int lv)] maxLocals)) t := fun t kt => pre128 _ (st129 t kt)
    have pre130 : ∀ t, Steps p.tables e below (T129.setTop (mkF m 270 #[.val (.long av), .second, .val (.long cv), .second, .val (.int fv), .val (.int lv), .val (.ref b76), .val (.int (Int32.ofNat ov)), .val (.int (Int32.ofNat nv)), .val (.int (Int32.ofNat (ov + nv))), .val (.long ((own_S DV (ov + nv) nv) ||| ((Int32.ofNat nv).toInt64 <<< ((56 : Int32) &&& 0x3f).toInt64))), .second, .unset, .unset, .unset, .unset] [(.int (5 : Int32)), (.int (Int32.ofNat nv)), (.int (Int32.ofNat ov)), (.ref b76), (.long ((((((((Int32.ofNat nv).toInt64) <<< ((56 : Int32) &&& 0x3f).toInt64) + (f2 ov nv 0 DV)) + (f2 ov nv 1 DV)) + (f2 ov nv 2 DV)) + (f2 ov nv 3 DV)) + (f2 ov nv 4 DV)))])) t → Steps p.tables e below (s₁.setTop (entryFrame m #[(.long av), (.long cv), (.int fv), (.int lv)] maxLocals)) t := fun t kt => by
      refine pre129 _ ?_
      show Steps p.tables e below (T129.setTop (mkF m 262 #[.val (.long av), .second, .val (.long cv), .second, .val (.int fv), .val (.int lv), .val (.ref b76), .val (.int (Int32.ofNat ov)), .val (.int (Int32.ofNat nv)), .val (.int (Int32.ofNat (ov + nv))), .val (.long ((own_S DV (ov + nv) nv) ||| ((Int32.ofNat nv).toInt64 <<< ((56 : Int32) &&& 0x3f).toInt64))), .second, .unset, .unset, .unset, .unset] [(.long (f2 ov nv 4 DV)), (.long (((((((Int32.ofNat nv).toInt64) <<< ((56 : Int32) &&& 0x3f).toInt64) + (f2 ov nv 0 DV)) + (f2 ov nv 1 DV)) + (f2 ov nv 2 DV)) + (f2 ov nv 3 DV)))])) _
      refine XS.ladd X129.here hx rfl (hb hby at_262) rfl ?_
      show Steps p.tables e below (T129.setTop (mkF m 263 #[.val (.long av), .second, .val (.long cv), .second, .val (.int fv), .val (.int lv), .val (.ref b76), .val (.int (Int32.ofNat ov)), .val (.int (Int32.ofNat nv)), .val (.int (Int32.ofNat (ov + nv))), .val (.long ((own_S DV (ov + nv) nv) ||| ((Int32.ofNat nv).toInt64 <<< ((56 : Int32) &&& 0x3f).toInt64))), .second, .unset, .unset, .unset, .unset] [(.long ((((((((Int32.ofNat nv).toInt64) <<< ((56 : Int32) &&& 0x3f).toInt64) + (f2 ov nv 0 DV)) + (f2 ov nv 1 DV)) + (f2 ov nv 2 DV)) + (f2 ov nv 3 DV)) + (f2 ov nv 4 DV)))])) _
      refine XS.aload X129.here hx rfl (hb hby at_263) rfl rfl ?_
      show Steps p.tables e below (T129.setTop (mkF m 265 #[.val (.long av), .second, .val (.long cv), .second, .val (.int fv), .val (.int lv), .val (.ref b76), .val (.int (Int32.ofNat ov)), .val (.int (Int32.ofNat nv)), .val (.int (Int32.ofNat (ov + nv))), .val (.long ((own_S DV (ov + nv) nv) ||| ((Int32.ofNat nv).toInt64 <<< ((56 : Int32) &&& 0x3f).toInt64))), .second, .unset, .unset, .unset, .unset] [(.ref b76), (.long ((((((((Int32.ofNat nv).toInt64) <<< ((56 : Int32) &&& 0x3f).toInt64) + (f2 ov nv 0 DV)) + (f2 ov nv 1 DV)) + (f2 ov nv 2 DV)) + (f2 ov nv 3 DV)) + (f2 ov nv 4 DV)))])) _
      refine XS.iload X129.here hx rfl (hb hby at_265) rfl ?_
      show Steps p.tables e below (T129.setTop (mkF m 267 #[.val (.long av), .second, .val (.long cv), .second, .val (.int fv), .val (.int lv), .val (.ref b76), .val (.int (Int32.ofNat ov)), .val (.int (Int32.ofNat nv)), .val (.int (Int32.ofNat (ov + nv))), .val (.long ((own_S DV (ov + nv) nv) ||| ((Int32.ofNat nv).toInt64 <<< ((56 : Int32) &&& 0x3f).toInt64))), .second, .unset, .unset, .unset, .unset] [(.int (Int32.ofNat ov)), (.ref b76), (.long ((((((((Int32.ofNat nv).toInt64) <<< ((56 : Int32) &&& 0x3f).toInt64) + (f2 ov nv 0 DV)) + (f2 ov nv 1 DV)) + (f2 ov nv 2 DV)) + (f2 ov nv 3 DV)) + (f2 ov nv 4 DV)))])) _
      refine XS.iload X129.here hx rfl (hb hby at_267) rfl ?_
      show Steps p.tables e below (T129.setTop (mkF m 269 #[.val (.long av), .second, .val (.long cv), .second, .val (.int fv), .val (.int lv), .val (.ref b76), .val (.int (Int32.ofNat ov)), .val (.int (Int32.ofNat nv)), .val (.int (Int32.ofNat (ov + nv))), .val (.long ((own_S DV (ov + nv) nv) ||| ((Int32.ofNat nv).toInt64 <<< ((56 : Int32) &&& 0x3f).toInt64))), .second, .unset, .unset, .unset, .unset] [(.int (Int32.ofNat nv)), (.int (Int32.ofNat ov)), (.ref b76), (.long ((((((((Int32.ofNat nv).toInt64) <<< ((56 : Int32) &&& 0x3f).toInt64) + (f2 ov nv 0 DV)) + (f2 ov nv 1 DV)) + (f2 ov nv 2 DV)) + (f2 ov nv 3 DV)) + (f2 ov nv 4 DV)))])) _
      refine XS.iconst X129.here hx rfl (hb hby at_269) ?_
      show Steps p.tables e below (T129.setTop (mkF m 270 #[.val (.long av), .second, .val (.long cv), .second, .val (.int fv), .val (.int lv), .val (.ref b76), .val (.int (Int32.ofNat ov)), .val (.int (Int32.ofNat nv)), .val (.int (Int32.ofNat (ov + nv))), .val (.long ((own_S DV (ov + nv) nv) ||| ((Int32.ofNat nv).toInt64 <<< ((56 : Int32) &&& 0x3f).toInt64))), .second, .unset, .unset, .unset, .unset] [(.int (5 : Int32)), (.int (Int32.ofNat nv)), (.int (Int32.ofNat ov)), (.ref b76), (.long ((((((((Int32.ofNat nv).toInt64) <<< ((56 : Int32) &&& 0x3f).toInt64) + (f2 ov nv 0 DV)) + (f2 ov nv 1 DV)) + (f2 ov nv 2 DV)) + (f2 ov nv 3 DV)) + (f2 ov nv 4 DV)))])) _
      exact kt
    obtain ⟨v131, _, ⟨T131, L131, k131, n131⟩, -, X131, ⟨Lc131, hQ131, l131, y131, z131⟩, st131⟩ := Jvm.LawKit.callS X129 hx (y := (⟨"com/example/attestry/attestry/ParticipantNamesKeyPinLaw", "part", "([BIII)J"⟩ : MethodName)) hown (mvT hZ (hw _ (List.mem_of_getElem? (i := 6) rfl))) (mvT hZ (hw _ (List.mem_of_getElem? (i := 7) rfl))) (mvT hZ (hw _ (List.mem_of_getElem? (i := 8) rfl))) (mvT hZ (hw _ (List.mem_of_getElem? (i := 9) rfl))) (by decide) (backOf (W := 2) (rm2 l Z aZ hw [] b76 ov nv 5 k76 vs DV T117.heap n0 Zs117 F117_0 hDV hon (by omega)) hZ (hw _ (List.mem_of_getElem? (i := 9) rfl)) (hw _ (List.mem_of_getElem? (i := 8) rfl)) (by decide) (by decide)) (g := (mkF m 270 #[.val (.long av), .second, .val (.long cv), .second, .val (.int fv), .val (.int lv), .val (.ref b76), .val (.int (Int32.ofNat ov)), .val (.int (Int32.ofNat nv)), .val (.int (Int32.ofNat (ov + nv))), .val (.long ((own_S DV (ov + nv) nv) ||| ((Int32.ofNat nv).toInt64 <<< ((56 : Int32) &&& 0x3f).toInt64))), .second, .unset, .unset, .unset, .unset] [(.int (5 : Int32)), (.int (Int32.ofNat nv)), (.int (Int32.ofNat ov)), (.ref b76), (.long ((((((((Int32.ofNat nv).toInt64) <<< ((56 : Int32) &&& 0x3f).toInt64) + (f2 ov nv 0 DV)) + (f2 ov nv 1 DV)) + (f2 ov nv 2 DV)) + (f2 ov nv 3 DV)) + (f2 ov nv 4 DV)))])) rfl (by rw [hml]; rfl) (argsL := [(.ref b76), (.int (Int32.ofNat ov)), (.int (Int32.ofNat nv)), (.int (5 : Int32))]) (rest := [(.long ((((((((Int32.ofNat nv).toInt64) <<< ((56 : Int32) &&& 0x3f).toInt64) + (f2 ov nv 0 DV)) + (f2 ov nv 1 DV)) + (f2 ov nv 2 DV)) + (f2 ov nv 3 DV)) + (f2 ov nv 4 DV)))]) (lenOf pd_1 rfl) rfl (by show 2 * 0 + _ ≤ _; exact Nat.le_of_eq rfl) (hb hby at_270) (fun _ _ => ⟨rfl, e129, (by decide : 1 + 0 ≤ _), (by decide : 16 + 0 ≤ _)⟩)
    dsimp only [Pt.U, Pt.locs, Pt.cells, Pt.slots] at X131 l131 y131 z131 st131 hQ131
    rw [l131, y131, z131] at X131
    clear l131 y131 z131
    obtain ⟨vq131, N131q, e131⟩ := hQ131
    rw [vq131] at st131
    have N131 := Fr.app N129 N131q
    have pre131 : ∀ t, Steps p.tables e below (T131.setTop (mkF m 273 #[.val (.long av), .second, .val (.long cv), .second, .val (.int fv), .val (.int lv), .val (.ref b76), .val (.int (Int32.ofNat ov)), .val (.int (Int32.ofNat nv)), .val (.int (Int32.ofNat (ov + nv))), .val (.long ((own_S DV (ov + nv) nv) ||| ((Int32.ofNat nv).toInt64 <<< ((56 : Int32) &&& 0x3f).toInt64))), .second, .unset, .unset, .unset, .unset] [(.long (f2 ov nv 5 DV)), (.long ((((((((Int32.ofNat nv).toInt64) <<< ((56 : Int32) &&& 0x3f).toInt64) + (f2 ov nv 0 DV)) + (f2 ov nv 1 DV)) + (f2 ov nv 2 DV)) + (f2 ov nv 3 DV)) + (f2 ov nv 4 DV)))])) t → Steps p.tables e below (s₁.setTop (entryFrame m #[(.long av), (.long cv), (.int fv), (.int lv)] maxLocals)) t := fun t kt => pre130 _ (st131 t kt)
    have pre132 : ∀ t, Steps p.tables e below (T131.setTop (mkF m 282 #[.val (.long av), .second, .val (.long cv), .second, .val (.int fv), .val (.int lv), .val (.ref b76), .val (.int (Int32.ofNat ov)), .val (.int (Int32.ofNat nv)), .val (.int (Int32.ofNat (ov + nv))), .val (.long ((own_S DV (ov + nv) nv) ||| ((Int32.ofNat nv).toInt64 <<< ((56 : Int32) &&& 0x3f).toInt64))), .second, .unset, .unset, .unset, .unset] [(.int (6 : Int32)), (.int (Int32.ofNat nv)), (.int (Int32.ofNat ov)), (.ref b76), (.long (((((((((Int32.ofNat nv).toInt64) <<< ((56 : Int32) &&& 0x3f).toInt64) + (f2 ov nv 0 DV)) + (f2 ov nv 1 DV)) + (f2 ov nv 2 DV)) + (f2 ov nv 3 DV)) + (f2 ov nv 4 DV)) + (f2 ov nv 5 DV)))])) t → Steps p.tables e below (s₁.setTop (entryFrame m #[(.long av), (.long cv), (.int fv), (.int lv)] maxLocals)) t := fun t kt => by
      refine pre131 _ ?_
      show Steps p.tables e below (T131.setTop (mkF m 273 #[.val (.long av), .second, .val (.long cv), .second, .val (.int fv), .val (.int lv), .val (.ref b76), .val (.int (Int32.ofNat ov)), .val (.int (Int32.ofNat nv)), .val (.int (Int32.ofNat (ov + nv))), .val (.long ((own_S DV (ov + nv) nv) ||| ((Int32.ofNat nv).toInt64 <<< ((56 : Int32) &&& 0x3f).toInt64))), .second, .unset, .unset, .unset, .unset] [(.long (f2 ov nv 5 DV)), (.long ((((((((Int32.ofNat nv).toInt64) <<< ((56 : Int32) &&& 0x3f).toInt64) + (f2 ov nv 0 DV)) + (f2 ov nv 1 DV)) + (f2 ov nv 2 DV)) + (f2 ov nv 3 DV)) + (f2 ov nv 4 DV)))])) _
      refine XS.ladd X131.here hx rfl (hb hby at_273) rfl ?_
      show Steps p.tables e below (T131.setTop (mkF m 274 #[.val (.long av), .second, .val (.long cv), .second, .val (.int fv), .val (.int lv), .val (.ref b76), .val (.int (Int32.ofNat ov)), .val (.int (Int32.ofNat nv)), .val (.int (Int32.ofNat (ov + nv))), .val (.long ((own_S DV (ov + nv) nv) ||| ((Int32.ofNat nv).toInt64 <<< ((56 : Int32) &&& 0x3f).toInt64))), .second, .unset, .unset, .unset, .unset] [(.long (((((((((Int32.ofNat nv).toInt64) <<< ((56 : Int32) &&& 0x3f).toInt64) + (f2 ov nv 0 DV)) + (f2 ov nv 1 DV)) + (f2 ov nv 2 DV)) + (f2 ov nv 3 DV)) + (f2 ov nv 4 DV)) + (f2 ov nv 5 DV)))])) _
      refine XS.aload X131.here hx rfl (hb hby at_274) rfl rfl ?_
      show Steps p.tables e below (T131.setTop (mkF m 276 #[.val (.long av), .second, .val (.long cv), .second, .val (.int fv), .val (.int lv), .val (.ref b76), .val (.int (Int32.ofNat ov)), .val (.int (Int32.ofNat nv)), .val (.int (Int32.ofNat (ov + nv))), .val (.long ((own_S DV (ov + nv) nv) ||| ((Int32.ofNat nv).toInt64 <<< ((56 : Int32) &&& 0x3f).toInt64))), .second, .unset, .unset, .unset, .unset] [(.ref b76), (.long (((((((((Int32.ofNat nv).toInt64) <<< ((56 : Int32) &&& 0x3f).toInt64) + (f2 ov nv 0 DV)) + (f2 ov nv 1 DV)) + (f2 ov nv 2 DV)) + (f2 ov nv 3 DV)) + (f2 ov nv 4 DV)) + (f2 ov nv 5 DV)))])) _
      refine XS.iload X131.here hx rfl (hb hby at_276) rfl ?_
      show Steps p.tables e below (T131.setTop (mkF m 278 #[.val (.long av), .second, .val (.long cv), .second, .val (.int fv), .val (.int lv), .val (.ref b76), .val (.int (Int32.ofNat ov)), .val (.int (Int32.ofNat nv)), .val (.int (Int32.ofNat (ov + nv))), .val (.long ((own_S DV (ov + nv) nv) ||| ((Int32.ofNat nv).toInt64 <<< ((56 : Int32) &&& 0x3f).toInt64))), .second, .unset, .unset, .unset, .unset] [(.int (Int32.ofNat ov)), (.ref b76), (.long (((((((((Int32.ofNat nv).toInt64) <<< ((56 : Int32) &&& 0x3f).toInt64) + (f2 ov nv 0 DV)) + (f2 ov nv 1 DV)) + (f2 ov nv 2 DV)) + (f2 ov nv 3 DV)) + (f2 ov nv 4 DV)) + (f2 ov nv 5 DV)))])) _
      refine XS.iload X131.here hx rfl (hb hby at_278) rfl ?_
      show Steps p.tables e below (T131.setTop (mkF m 280 #[.val (.long av), .second, .val (.long cv), .second, .val (.int fv), .val (.int lv), .val (.ref b76), .val (.int (Int32.ofNat ov)), .val (.int (Int32.ofNat nv)), .val (.int (Int32.ofNat (ov + nv))), .val (.long ((own_S DV (ov + nv) nv) ||| ((Int32.ofNat nv).toInt64 <<< ((56 : Int32) &&& 0x3f).toInt64))), .second, .unset, .unset, .unset, .unset] [(.int (Int32.ofNat nv)), (.int (Int32.ofNat ov)), (.ref b76), (.long (((((((((Int32.ofNat nv).toInt64) <<< ((56 : Int32) &&& 0x3f).toInt64) + (f2 ov nv 0 DV)) + (f2 ov nv 1 DV)) + (f2 ov nv 2 DV)) + (f2 ov nv 3 DV)) + (f2 ov nv 4 DV)) + (f2 ov nv 5 DV)))])) _
      refine XS.bipush X131.here hx rfl (hb hby at_280) ?_
      show Steps p.tables e below (T131.setTop (mkF m 282 #[.val (.long av), .second, .val (.long cv), .second, .val (.int fv), .val (.int lv), .val (.ref b76), .val (.int (Int32.ofNat ov)), .val (.int (Int32.ofNat nv)), .val (.int (Int32.ofNat (ov + nv))), .val (.long ((own_S DV (ov + nv) nv) ||| ((Int32.ofNat nv).toInt64 <<< ((56 : Int32) &&& 0x3f).toInt64))), .second, .unset, .unset, .unset, .unset] [(.int (6 : Int32)), (.int (Int32.ofNat nv)), (.int (Int32.ofNat ov)), (.ref b76), (.long (((((((((Int32.ofNat nv).toInt64) <<< ((56 : Int32) &&& 0x3f).toInt64) + (f2 ov nv 0 DV)) + (f2 ov nv 1 DV)) + (f2 ov nv 2 DV)) + (f2 ov nv 3 DV)) + (f2 ov nv 4 DV)) + (f2 ov nv 5 DV)))])) _
      exact kt
    obtain ⟨v133, _, ⟨T133, L133, k133, n133⟩, -, X133, ⟨Lc133, hQ133, l133, y133, z133⟩, st133⟩ := Jvm.LawKit.callS X131 hx (y := (⟨"com/example/attestry/attestry/ParticipantNamesKeyPinLaw", "part", "([BIII)J"⟩ : MethodName)) hown (mvT hZ (hw _ (List.mem_of_getElem? (i := 6) rfl))) (mvT hZ (hw _ (List.mem_of_getElem? (i := 7) rfl))) (mvT hZ (hw _ (List.mem_of_getElem? (i := 8) rfl))) (mvT hZ (hw _ (List.mem_of_getElem? (i := 9) rfl))) (by decide) (backOf (W := 2) (rm2 l Z aZ hw [] b76 ov nv 6 k76 vs DV T117.heap n0 Zs117 F117_0 hDV hon (by omega)) hZ (hw _ (List.mem_of_getElem? (i := 9) rfl)) (hw _ (List.mem_of_getElem? (i := 8) rfl)) (by decide) (by decide)) (g := (mkF m 282 #[.val (.long av), .second, .val (.long cv), .second, .val (.int fv), .val (.int lv), .val (.ref b76), .val (.int (Int32.ofNat ov)), .val (.int (Int32.ofNat nv)), .val (.int (Int32.ofNat (ov + nv))), .val (.long ((own_S DV (ov + nv) nv) ||| ((Int32.ofNat nv).toInt64 <<< ((56 : Int32) &&& 0x3f).toInt64))), .second, .unset, .unset, .unset, .unset] [(.int (6 : Int32)), (.int (Int32.ofNat nv)), (.int (Int32.ofNat ov)), (.ref b76), (.long (((((((((Int32.ofNat nv).toInt64) <<< ((56 : Int32) &&& 0x3f).toInt64) + (f2 ov nv 0 DV)) + (f2 ov nv 1 DV)) + (f2 ov nv 2 DV)) + (f2 ov nv 3 DV)) + (f2 ov nv 4 DV)) + (f2 ov nv 5 DV)))])) rfl (by rw [hml]; rfl) (argsL := [(.ref b76), (.int (Int32.ofNat ov)), (.int (Int32.ofNat nv)), (.int (6 : Int32))]) (rest := [(.long (((((((((Int32.ofNat nv).toInt64) <<< ((56 : Int32) &&& 0x3f).toInt64) + (f2 ov nv 0 DV)) + (f2 ov nv 1 DV)) + (f2 ov nv 2 DV)) + (f2 ov nv 3 DV)) + (f2 ov nv 4 DV)) + (f2 ov nv 5 DV)))]) (lenOf pd_1 rfl) rfl (by show 2 * 0 + _ ≤ _; exact Nat.le_of_eq rfl) (hb hby at_282) (fun _ _ => ⟨rfl, e131, (by decide : 1 + 0 ≤ _), (by decide : 16 + 0 ≤ _)⟩)
    dsimp only [Pt.U, Pt.locs, Pt.cells, Pt.slots] at X133 l133 y133 z133 st133 hQ133
    rw [l133, y133, z133] at X133
    clear l133 y133 z133
    obtain ⟨vq133, N133q, e133⟩ := hQ133
    rw [vq133] at st133
    have N133 := Fr.app N131 N133q
    have pre133 : ∀ t, Steps p.tables e below (T133.setTop (mkF m 285 #[.val (.long av), .second, .val (.long cv), .second, .val (.int fv), .val (.int lv), .val (.ref b76), .val (.int (Int32.ofNat ov)), .val (.int (Int32.ofNat nv)), .val (.int (Int32.ofNat (ov + nv))), .val (.long ((own_S DV (ov + nv) nv) ||| ((Int32.ofNat nv).toInt64 <<< ((56 : Int32) &&& 0x3f).toInt64))), .second, .unset, .unset, .unset, .unset] [(.long (f2 ov nv 6 DV)), (.long (((((((((Int32.ofNat nv).toInt64) <<< ((56 : Int32) &&& 0x3f).toInt64) + (f2 ov nv 0 DV)) + (f2 ov nv 1 DV)) + (f2 ov nv 2 DV)) + (f2 ov nv 3 DV)) + (f2 ov nv 4 DV)) + (f2 ov nv 5 DV)))])) t → Steps p.tables e below (s₁.setTop (entryFrame m #[(.long av), (.long cv), (.int fv), (.int lv)] maxLocals)) t := fun t kt => pre132 _ (st133 t kt)
    have pre134 : ∀ t, Steps p.tables e below (T133.setTop (mkF m 545 #[.val (.long av), .second, .val (.long cv), .second, .val (.int fv), .val (.int lv), .val (.ref b76), .val (.int (Int32.ofNat ov)), .val (.int (Int32.ofNat nv)), .val (.int (Int32.ofNat (ov + nv))), .val (.long ((own_S DV (ov + nv) nv) ||| ((Int32.ofNat nv).toInt64 <<< ((56 : Int32) &&& 0x3f).toInt64))), .second, .val (.long ((((((((((Int32.ofNat nv).toInt64) <<< ((56 : Int32) &&& 0x3f).toInt64) + (f2 ov nv 0 DV)) + (f2 ov nv 1 DV)) + (f2 ov nv 2 DV)) + (f2 ov nv 3 DV)) + (f2 ov nv 4 DV)) + (f2 ov nv 5 DV)) + (f2 ov nv 6 DV))), .second, .unset, .unset] [(.int (lcmpW ((own_S DV (ov + nv) nv) ||| ((Int32.ofNat nv).toInt64 <<< ((56 : Int32) &&& 0x3f).toInt64)) ((((((((((Int32.ofNat nv).toInt64) <<< ((56 : Int32) &&& 0x3f).toInt64) + (f2 ov nv 0 DV)) + (f2 ov nv 1 DV)) + (f2 ov nv 2 DV)) + (f2 ov nv 3 DV)) + (f2 ov nv 4 DV)) + (f2 ov nv 5 DV)) + (f2 ov nv 6 DV))))])) t → Steps p.tables e below (s₁.setTop (entryFrame m #[(.long av), (.long cv), (.int fv), (.int lv)] maxLocals)) t := fun t kt => by
      refine pre133 _ ?_
      show Steps p.tables e below (T133.setTop (mkF m 285 #[.val (.long av), .second, .val (.long cv), .second, .val (.int fv), .val (.int lv), .val (.ref b76), .val (.int (Int32.ofNat ov)), .val (.int (Int32.ofNat nv)), .val (.int (Int32.ofNat (ov + nv))), .val (.long ((own_S DV (ov + nv) nv) ||| ((Int32.ofNat nv).toInt64 <<< ((56 : Int32) &&& 0x3f).toInt64))), .second, .unset, .unset, .unset, .unset] [(.long (f2 ov nv 6 DV)), (.long (((((((((Int32.ofNat nv).toInt64) <<< ((56 : Int32) &&& 0x3f).toInt64) + (f2 ov nv 0 DV)) + (f2 ov nv 1 DV)) + (f2 ov nv 2 DV)) + (f2 ov nv 3 DV)) + (f2 ov nv 4 DV)) + (f2 ov nv 5 DV)))])) _
      refine XS.ladd X133.here hx rfl (hb hby at_285) rfl ?_
      show Steps p.tables e below (T133.setTop (mkF m 286 #[.val (.long av), .second, .val (.long cv), .second, .val (.int fv), .val (.int lv), .val (.ref b76), .val (.int (Int32.ofNat ov)), .val (.int (Int32.ofNat nv)), .val (.int (Int32.ofNat (ov + nv))), .val (.long ((own_S DV (ov + nv) nv) ||| ((Int32.ofNat nv).toInt64 <<< ((56 : Int32) &&& 0x3f).toInt64))), .second, .unset, .unset, .unset, .unset] [(.long ((((((((((Int32.ofNat nv).toInt64) <<< ((56 : Int32) &&& 0x3f).toInt64) + (f2 ov nv 0 DV)) + (f2 ov nv 1 DV)) + (f2 ov nv 2 DV)) + (f2 ov nv 3 DV)) + (f2 ov nv 4 DV)) + (f2 ov nv 5 DV)) + (f2 ov nv 6 DV)))])) _
      refine XS.lstore X133.here hx rfl (hb hby at_286) rfl (l' := #[.val (.long av), .second, .val (.long cv), .second, .val (.int fv), .val (.int lv), .val (.ref b76), .val (.int (Int32.ofNat ov)), .val (.int (Int32.ofNat nv)), .val (.int (Int32.ofNat (ov + nv))), .val (.long ((own_S DV (ov + nv) nv) ||| ((Int32.ofNat nv).toInt64 <<< ((56 : Int32) &&& 0x3f).toInt64))), .second, .val (.long ((((((((((Int32.ofNat nv).toInt64) <<< ((56 : Int32) &&& 0x3f).toInt64) + (f2 ov nv 0 DV)) + (f2 ov nv 1 DV)) + (f2 ov nv 2 DV)) + (f2 ov nv 3 DV)) + (f2 ov nv 4 DV)) + (f2 ov nv 5 DV)) + (f2 ov nv 6 DV))), .second, .unset, .unset]) rfl ?_
      show Steps p.tables e below (T133.setTop (mkF m 288 #[.val (.long av), .second, .val (.long cv), .second, .val (.int fv), .val (.int lv), .val (.ref b76), .val (.int (Int32.ofNat ov)), .val (.int (Int32.ofNat nv)), .val (.int (Int32.ofNat (ov + nv))), .val (.long ((own_S DV (ov + nv) nv) ||| ((Int32.ofNat nv).toInt64 <<< ((56 : Int32) &&& 0x3f).toInt64))), .second, .val (.long ((((((((((Int32.ofNat nv).toInt64) <<< ((56 : Int32) &&& 0x3f).toInt64) + (f2 ov nv 0 DV)) + (f2 ov nv 1 DV)) + (f2 ov nv 2 DV)) + (f2 ov nv 3 DV)) + (f2 ov nv 4 DV)) + (f2 ov nv 5 DV)) + (f2 ov nv 6 DV))), .second, .unset, .unset] [])) _
      refine XS.goto X133.here hx rfl (pc0 := 288) (pc' := 540) rfl (hb hby at_288) (by decide) (by decide) ?_
      show Steps p.tables e below (T133.setTop (mkF m 540 #[.val (.long av), .second, .val (.long cv), .second, .val (.int fv), .val (.int lv), .val (.ref b76), .val (.int (Int32.ofNat ov)), .val (.int (Int32.ofNat nv)), .val (.int (Int32.ofNat (ov + nv))), .val (.long ((own_S DV (ov + nv) nv) ||| ((Int32.ofNat nv).toInt64 <<< ((56 : Int32) &&& 0x3f).toInt64))), .second, .val (.long ((((((((((Int32.ofNat nv).toInt64) <<< ((56 : Int32) &&& 0x3f).toInt64) + (f2 ov nv 0 DV)) + (f2 ov nv 1 DV)) + (f2 ov nv 2 DV)) + (f2 ov nv 3 DV)) + (f2 ov nv 4 DV)) + (f2 ov nv 5 DV)) + (f2 ov nv 6 DV))), .second, .unset, .unset] [])) _
      refine XS.lload X133.here hx rfl (hb hby at_540) rfl ?_
      show Steps p.tables e below (T133.setTop (mkF m 542 #[.val (.long av), .second, .val (.long cv), .second, .val (.int fv), .val (.int lv), .val (.ref b76), .val (.int (Int32.ofNat ov)), .val (.int (Int32.ofNat nv)), .val (.int (Int32.ofNat (ov + nv))), .val (.long ((own_S DV (ov + nv) nv) ||| ((Int32.ofNat nv).toInt64 <<< ((56 : Int32) &&& 0x3f).toInt64))), .second, .val (.long ((((((((((Int32.ofNat nv).toInt64) <<< ((56 : Int32) &&& 0x3f).toInt64) + (f2 ov nv 0 DV)) + (f2 ov nv 1 DV)) + (f2 ov nv 2 DV)) + (f2 ov nv 3 DV)) + (f2 ov nv 4 DV)) + (f2 ov nv 5 DV)) + (f2 ov nv 6 DV))), .second, .unset, .unset] [(.long ((own_S DV (ov + nv) nv) ||| ((Int32.ofNat nv).toInt64 <<< ((56 : Int32) &&& 0x3f).toInt64)))])) _
      refine XS.lload X133.here hx rfl (hb hby at_542) rfl ?_
      show Steps p.tables e below (T133.setTop (mkF m 544 #[.val (.long av), .second, .val (.long cv), .second, .val (.int fv), .val (.int lv), .val (.ref b76), .val (.int (Int32.ofNat ov)), .val (.int (Int32.ofNat nv)), .val (.int (Int32.ofNat (ov + nv))), .val (.long ((own_S DV (ov + nv) nv) ||| ((Int32.ofNat nv).toInt64 <<< ((56 : Int32) &&& 0x3f).toInt64))), .second, .val (.long ((((((((((Int32.ofNat nv).toInt64) <<< ((56 : Int32) &&& 0x3f).toInt64) + (f2 ov nv 0 DV)) + (f2 ov nv 1 DV)) + (f2 ov nv 2 DV)) + (f2 ov nv 3 DV)) + (f2 ov nv 4 DV)) + (f2 ov nv 5 DV)) + (f2 ov nv 6 DV))), .second, .unset, .unset] [(.long ((((((((((Int32.ofNat nv).toInt64) <<< ((56 : Int32) &&& 0x3f).toInt64) + (f2 ov nv 0 DV)) + (f2 ov nv 1 DV)) + (f2 ov nv 2 DV)) + (f2 ov nv 3 DV)) + (f2 ov nv 4 DV)) + (f2 ov nv 5 DV)) + (f2 ov nv 6 DV))), (.long ((own_S DV (ov + nv) nv) ||| ((Int32.ofNat nv).toInt64 <<< ((56 : Int32) &&& 0x3f).toInt64)))])) _
      refine XS.lcmp X133.here hx rfl (hb hby at_544) rfl ?_
      show Steps p.tables e below (T133.setTop (mkF m 545 #[.val (.long av), .second, .val (.long cv), .second, .val (.int fv), .val (.int lv), .val (.ref b76), .val (.int (Int32.ofNat ov)), .val (.int (Int32.ofNat nv)), .val (.int (Int32.ofNat (ov + nv))), .val (.long ((own_S DV (ov + nv) nv) ||| ((Int32.ofNat nv).toInt64 <<< ((56 : Int32) &&& 0x3f).toInt64))), .second, .val (.long ((((((((((Int32.ofNat nv).toInt64) <<< ((56 : Int32) &&& 0x3f).toInt64) + (f2 ov nv 0 DV)) + (f2 ov nv 1 DV)) + (f2 ov nv 2 DV)) + (f2 ov nv 3 DV)) + (f2 ov nv 4 DV)) + (f2 ov nv 5 DV)) + (f2 ov nv 6 DV))), .second, .unset, .unset] [(.int (lcmpW ((own_S DV (ov + nv) nv) ||| ((Int32.ofNat nv).toInt64 <<< ((56 : Int32) &&& 0x3f).toInt64)) ((((((((((Int32.ofNat nv).toInt64) <<< ((56 : Int32) &&& 0x3f).toInt64) + (f2 ov nv 0 DV)) + (f2 ov nv 1 DV)) + (f2 ov nv 2 DV)) + (f2 ov nv 3 DV)) + (f2 ov nv 4 DV)) + (f2 ov nv 5 DV)) + (f2 ov nv 6 DV))))])) _
      exact kt
    have pre135 : ∀ t, Steps p.tables e below (T133.setTop (mkF m 548 #[.val (.long av), .second, .val (.long cv), .second, .val (.int fv), .val (.int lv), .val (.ref b76), .val (.int (Int32.ofNat ov)), .val (.int (Int32.ofNat nv)), .val (.int (Int32.ofNat (ov + nv))), .val (.long ((own_S DV (ov + nv) nv) ||| ((Int32.ofNat nv).toInt64 <<< ((56 : Int32) &&& 0x3f).toInt64))), .second, .val (.long ((((((((((Int32.ofNat nv).toInt64) <<< ((56 : Int32) &&& 0x3f).toInt64) + (f2 ov nv 0 DV)) + (f2 ov nv 1 DV)) + (f2 ov nv 2 DV)) + (f2 ov nv 3 DV)) + (f2 ov nv 4 DV)) + (f2 ov nv 5 DV)) + (f2 ov nv 6 DV))), .second, .unset, .unset] [])) t → Steps p.tables e below (s₁.setTop (entryFrame m #[(.long av), (.long cv), (.int fv), (.int lv)] maxLocals)) t := fun t kt => by
      refine pre134 _ ?_
      show Steps p.tables e below (T133.setTop (mkF m 545 #[.val (.long av), .second, .val (.long cv), .second, .val (.int fv), .val (.int lv), .val (.ref b76), .val (.int (Int32.ofNat ov)), .val (.int (Int32.ofNat nv)), .val (.int (Int32.ofNat (ov + nv))), .val (.long ((own_S DV (ov + nv) nv) ||| ((Int32.ofNat nv).toInt64 <<< ((56 : Int32) &&& 0x3f).toInt64))), .second, .val (.long ((((((((((Int32.ofNat nv).toInt64) <<< ((56 : Int32) &&& 0x3f).toInt64) + (f2 ov nv 0 DV)) + (f2 ov nv 1 DV)) + (f2 ov nv 2 DV)) + (f2 ov nv 3 DV)) + (f2 ov nv 4 DV)) + (f2 ov nv 5 DV)) + (f2 ov nv 6 DV))), .second, .unset, .unset] [(.int (lcmpW ((own_S DV (ov + nv) nv) ||| ((Int32.ofNat nv).toInt64 <<< ((56 : Int32) &&& 0x3f).toInt64)) ((((((((((Int32.ofNat nv).toInt64) <<< ((56 : Int32) &&& 0x3f).toInt64) + (f2 ov nv 0 DV)) + (f2 ov nv 1 DV)) + (f2 ov nv 2 DV)) + (f2 ov nv 3 DV)) + (f2 ov nv 4 DV)) + (f2 ov nv 5 DV)) + (f2 ov nv 6 DV))))])) _
      refine XS.ifNo X133.here hx rfl (hb hby at_545) rfl ((if0 _ _).trans (teq ((lw_eq ((own_S DV (ov + nv) nv) ||| ((Int32.ofNat nv).toInt64 <<< ((56 : Int32) &&& 0x3f).toInt64)) ((((((((((Int32.ofNat nv).toInt64) <<< ((56 : Int32) &&& 0x3f).toInt64) + (f2 ov nv 0 DV)) + (f2 ov nv 1 DV)) + (f2 ov nv 2 DV)) + (f2 ov nv 3 DV)) + (f2 ov nv 4 DV)) + (f2 ov nv 5 DV)) + (f2 ov nv 6 DV))).mpr (own_short DV ov nv hs))).2) ?_
      show Steps p.tables e below (T133.setTop (mkF m 548 #[.val (.long av), .second, .val (.long cv), .second, .val (.int fv), .val (.int lv), .val (.ref b76), .val (.int (Int32.ofNat ov)), .val (.int (Int32.ofNat nv)), .val (.int (Int32.ofNat (ov + nv))), .val (.long ((own_S DV (ov + nv) nv) ||| ((Int32.ofNat nv).toInt64 <<< ((56 : Int32) &&& 0x3f).toInt64))), .second, .val (.long ((((((((((Int32.ofNat nv).toInt64) <<< ((56 : Int32) &&& 0x3f).toInt64) + (f2 ov nv 0 DV)) + (f2 ov nv 1 DV)) + (f2 ov nv 2 DV)) + (f2 ov nv 3 DV)) + (f2 ov nv 4 DV)) + (f2 ov nv 5 DV)) + (f2 ov nv 6 DV))), .second, .unset, .unset] [])) _
      exact kt
    have pre136 : ∀ t, Steps p.tables e below (T133.setTop (mkF m 553 #[.val (.long av), .second, .val (.long cv), .second, .val (.int fv), .val (.int lv), .val (.ref b76), .val (.int (Int32.ofNat ov)), .val (.int (Int32.ofNat nv)), .val (.int (Int32.ofNat (ov + nv))), .val (.long ((own_S DV (ov + nv) nv) ||| ((Int32.ofNat nv).toInt64 <<< ((56 : Int32) &&& 0x3f).toInt64))), .second, .val (.long ((((((((((Int32.ofNat nv).toInt64) <<< ((56 : Int32) &&& 0x3f).toInt64) + (f2 ov nv 0 DV)) + (f2 ov nv 1 DV)) + (f2 ov nv 2 DV)) + (f2 ov nv 3 DV)) + (f2 ov nv 4 DV)) + (f2 ov nv 5 DV)) + (f2 ov nv 6 DV))), .second, .unset, .unset] [(.int (1 : Int32))])) t → Steps p.tables e below (s₁.setTop (entryFrame m #[(.long av), (.long cv), (.int fv), (.int lv)] maxLocals)) t := fun t kt => by
      refine pre135 _ ?_
      show Steps p.tables e below (T133.setTop (mkF m 548 #[.val (.long av), .second, .val (.long cv), .second, .val (.int fv), .val (.int lv), .val (.ref b76), .val (.int (Int32.ofNat ov)), .val (.int (Int32.ofNat nv)), .val (.int (Int32.ofNat (ov + nv))), .val (.long ((own_S DV (ov + nv) nv) ||| ((Int32.ofNat nv).toInt64 <<< ((56 : Int32) &&& 0x3f).toInt64))), .second, .val (.long ((((((((((Int32.ofNat nv).toInt64) <<< ((56 : Int32) &&& 0x3f).toInt64) + (f2 ov nv 0 DV)) + (f2 ov nv 1 DV)) + (f2 ov nv 2 DV)) + (f2 ov nv 3 DV)) + (f2 ov nv 4 DV)) + (f2 ov nv 5 DV)) + (f2 ov nv 6 DV))), .second, .unset, .unset] [])) _
      refine XS.iconst X133.here hx rfl (hb hby at_548) ?_
      show Steps p.tables e below (T133.setTop (mkF m 549 #[.val (.long av), .second, .val (.long cv), .second, .val (.int fv), .val (.int lv), .val (.ref b76), .val (.int (Int32.ofNat ov)), .val (.int (Int32.ofNat nv)), .val (.int (Int32.ofNat (ov + nv))), .val (.long ((own_S DV (ov + nv) nv) ||| ((Int32.ofNat nv).toInt64 <<< ((56 : Int32) &&& 0x3f).toInt64))), .second, .val (.long ((((((((((Int32.ofNat nv).toInt64) <<< ((56 : Int32) &&& 0x3f).toInt64) + (f2 ov nv 0 DV)) + (f2 ov nv 1 DV)) + (f2 ov nv 2 DV)) + (f2 ov nv 3 DV)) + (f2 ov nv 4 DV)) + (f2 ov nv 5 DV)) + (f2 ov nv 6 DV))), .second, .unset, .unset] [(.int (1 : Int32))])) _
      refine XS.goto X133.here hx rfl (pc0 := 549) (pc' := 553) rfl (hb hby at_549) (by decide) (by decide) ?_
      show Steps p.tables e below (T133.setTop (mkF m 553 #[.val (.long av), .second, .val (.long cv), .second, .val (.int fv), .val (.int lv), .val (.ref b76), .val (.int (Int32.ofNat ov)), .val (.int (Int32.ofNat nv)), .val (.int (Int32.ofNat (ov + nv))), .val (.long ((own_S DV (ov + nv) nv) ||| ((Int32.ofNat nv).toInt64 <<< ((56 : Int32) &&& 0x3f).toInt64))), .second, .val (.long ((((((((((Int32.ofNat nv).toInt64) <<< ((56 : Int32) &&& 0x3f).toInt64) + (f2 ov nv 0 DV)) + (f2 ov nv 1 DV)) + (f2 ov nv 2 DV)) + (f2 ov nv 3 DV)) + (f2 ov nv 4 DV)) + (f2 ov nv 5 DV)) + (f2 ov nv 6 DV))), .second, .unset, .unset] [(.int (1 : Int32))])) _
      exact kt
    obtain ⟨fs, hr, hrun, hended, hW, hsame⟩ := X133.leave (v := some (.int (1 : Int32))) (fun h => by rw [Bd.returns] at h; cases h)
    refine ⟨_, _, pre136 _ ?_, hrun, hended, _, _, rfl, ?_, ⟨_, rfl⟩, hW, hsame.mono (by decide) (by decide)⟩
    · show Steps p.tables e below (T133.setTop (mkF m 553 #[.val (.long av), .second, .val (.long cv), .second, .val (.int fv), .val (.int lv), .val (.ref b76), .val (.int (Int32.ofNat ov)), .val (.int (Int32.ofNat nv)), .val (.int (Int32.ofNat (ov + nv))), .val (.long ((own_S DV (ov + nv) nv) ||| ((Int32.ofNat nv).toInt64 <<< ((56 : Int32) &&& 0x3f).toInt64))), .second, .val (.long ((((((((((Int32.ofNat nv).toInt64) <<< ((56 : Int32) &&& 0x3f).toInt64) + (f2 ov nv 0 DV)) + (f2 ov nv 1 DV)) + (f2 ov nv 2 DV)) + (f2 ov nv 3 DV)) + (f2 ov nv 4 DV)) + (f2 ov nv 5 DV)) + (f2 ov nv 6 DV))), .second, .unset, .unset] [(.int (1 : Int32))])) _
      exact retN X133 hx (t := .boolean) Bd.returns (by simp) (hb hby at_553) hr
    · show Q0 av cv fv lv h0 n0 _ T133.heap _
      exact ⟨rfl, N133⟩
  · have hs : 7 < nv := by omega
    have pre137 : ∀ t, Steps p.tables e below (T108.setTop (mkF m 190 #[.val (.long av), .second, .val (.long cv), .second, .val (.int fv), .val (.int lv), .val (.ref b76), .val (.int (Int32.ofNat ov)), .val (.int (Int32.ofNat nv)), .val (.int (Int32.ofNat (ov + nv))), .unset, .unset, .unset, .unset, .unset, .unset] [(.int (Int32.ofNat (ov + nv))), (.int (Int32.ofNat ov)), (.ref b76)])) t → Steps p.tables e below (s₁.setTop (entryFrame m #[(.long av), (.long cv), (.int fv), (.int lv)] maxLocals)) t := fun t kt => by
      refine pre115 _ ?_
      show Steps p.tables e below (T108.setTop (mkF m 184 #[.val (.long av), .second, .val (.long cv), .second, .val (.int fv), .val (.int lv), .val (.ref b76), .val (.int (Int32.ofNat ov)), .val (.int (Int32.ofNat nv)), .val (.int (Int32.ofNat (ov + nv))), .unset, .unset, .unset, .unset, .unset, .unset] [])) _
      refine XS.aload X108.here hx rfl (hb hby at_184) rfl rfl ?_
      show Steps p.tables e below (T108.setTop (mkF m 186 #[.val (.long av), .second, .val (.long cv), .second, .val (.int fv), .val (.int lv), .val (.ref b76), .val (.int (Int32.ofNat ov)), .val (.int (Int32.ofNat nv)), .val (.int (Int32.ofNat (ov + nv))), .unset, .unset, .unset, .unset, .unset, .unset] [(.ref b76)])) _
      refine XS.iload X108.here hx rfl (hb hby at_186) rfl ?_
      show Steps p.tables e below (T108.setTop (mkF m 188 #[.val (.long av), .second, .val (.long cv), .second, .val (.int fv), .val (.int lv), .val (.ref b76), .val (.int (Int32.ofNat ov)), .val (.int (Int32.ofNat nv)), .val (.int (Int32.ofNat (ov + nv))), .unset, .unset, .unset, .unset, .unset, .unset] [(.int (Int32.ofNat ov)), (.ref b76)])) _
      refine XS.iload X108.here hx rfl (hb hby at_188) rfl ?_
      show Steps p.tables e below (T108.setTop (mkF m 190 #[.val (.long av), .second, .val (.long cv), .second, .val (.int fv), .val (.int lv), .val (.ref b76), .val (.int (Int32.ofNat ov)), .val (.int (Int32.ofNat nv)), .val (.int (Int32.ofNat (ov + nv))), .unset, .unset, .unset, .unset, .unset, .unset] [(.int (Int32.ofNat (ov + nv))), (.int (Int32.ofNat ov)), (.ref b76)])) _
      exact kt
    obtain ⟨v138, _, ⟨T138, L138, k138, n138⟩, -, X138, ⟨Lc138, hQ138, l138, y138, z138⟩, st138⟩ := Jvm.LawKit.callS X108 hx (y := (⟨"com/example/attestry/attestry/ParticipantNames", "key", "([BII)J"⟩ : MethodName)) hown (mvT hZ (hw _ (List.mem_of_getElem? (i := 2) rfl))) (mvT hZ (hw _ (List.mem_of_getElem? (i := 3) rfl))) (mvT hZ (hw _ (List.mem_of_getElem? (i := 4) rfl))) (mvT hZ (hw _ (List.mem_of_getElem? (i := 5) rfl))) (by decide) (backOf (W := 0) (rm1_l l Z aZ hw [] b76 ov nv k76 vs DV h108 n0 Zs108 Vd hDV hon hs) hZ (hw _ (List.mem_of_getElem? (i := 5) rfl)) (hw _ (List.mem_of_getElem? (i := 4) rfl)) (by decide) (by decide)) (g := (mkF m 190 #[.val (.long av), .second, .val (.long cv), .second, .val (.int fv), .val (.int lv), .val (.ref b76), .val (.int (Int32.ofNat ov)), .val (.int (Int32.ofNat nv)), .val (.int (Int32.ofNat (ov + nv))), .unset, .unset, .unset, .unset, .unset, .unset] [(.int (Int32.ofNat (ov + nv))), (.int (Int32.ofNat ov)), (.ref b76)])) rfl (by rw [hml]; rfl) (argsL := [(.ref b76), (.int (Int32.ofNat ov)), (.int (Int32.ofNat (ov + nv)))]) (rest := []) (lenOf pd_0 rfl) rfl (by show 2 * 0 + _ ≤ _; exact Nat.le_of_eq rfl) (hb hby at_190) (fun _ _ => ⟨rfl, e108, (by decide : 1 + 0 ≤ _), (by decide : 16 + 0 ≤ _)⟩)
    dsimp only [Pt.U, Pt.locs, Pt.cells, Pt.slots] at X138 l138 y138 z138 st138 hQ138
    rw [l138, y138, z138] at X138
    clear l138 y138 z138
    obtain ⟨vq138, N138q, Kc138⟩ := hQ138
    rw [vq138] at st138
    have N138 := Fr.app N108 N138q
    have pre138 : ∀ t, Steps p.tables e below (T138.setTop (mkF m 193 #[.val (.long av), .second, .val (.long cv), .second, .val (.int fv), .val (.int lv), .val (.ref b76), .val (.int (Int32.ofNat ov)), .val (.int (Int32.ofNat nv)), .val (.int (Int32.ofNat (ov + nv))), .unset, .unset, .unset, .unset, .unset, .unset] [(.long ((-72057594037927936 : Int64) ||| ((own_H DV ov nv) &&& (72057594037927935 : Int64))))])) t → Steps p.tables e below (s₁.setTop (entryFrame m #[(.long av), (.long cv), (.int fv), (.int lv)] maxLocals)) t := fun t kt => pre137 _ (st138 t kt)
    have Zs138 : n0 ≤ T138.heap.size := Nat.le_trans Zs108 Kc138.1
    have F138_0 := Vd.keep Kc138 (by simp)
    have K138 := K108.trans Kc138 (by simp)
    have pre139 : ∀ t, Steps p.tables e below (T138.setTop (mkF m 199 #[.val (.long av), .second, .val (.long cv), .second, .val (.int fv), .val (.int lv), .val (.ref b76), .val (.int (Int32.ofNat ov)), .val (.int (Int32.ofNat nv)), .val (.int (Int32.ofNat (ov + nv))), .val (.long ((-72057594037927936 : Int64) ||| ((own_H DV ov nv) &&& (72057594037927935 : Int64)))), .second, .unset, .unset, .unset, .unset] [(.int (7 : Int32)), (.int (Int32.ofNat nv))])) t → Steps p.tables e below (s₁.setTop (entryFrame m #[(.long av), (.long cv), (.int fv), (.int lv)] maxLocals)) t := fun t kt => by
      refine pre138 _ ?_
      show Steps p.tables e below (T138.setTop (mkF m 193 #[.val (.long av), .second, .val (.long cv), .second, .val (.int fv), .val (.int lv), .val (.ref b76), .val (.int (Int32.ofNat ov)), .val (.int (Int32.ofNat nv)), .val (.int (Int32.ofNat (ov + nv))), .unset, .unset, .unset, .unset, .unset, .unset] [(.long ((-72057594037927936 : Int64) ||| ((own_H DV ov nv) &&& (72057594037927935 : Int64))))])) _
      refine XS.lstore X138.here hx rfl (hb hby at_193) rfl (l' := #[.val (.long av), .second, .val (.long cv), .second, .val (.int fv), .val (.int lv), .val (.ref b76), .val (.int (Int32.ofNat ov)), .val (.int (Int32.ofNat nv)), .val (.int (Int32.ofNat (ov + nv))), .val (.long ((-72057594037927936 : Int64) ||| ((own_H DV ov nv) &&& (72057594037927935 : Int64)))), .second, .unset, .unset, .unset, .unset]) rfl ?_
      show Steps p.tables e below (T138.setTop (mkF m 195 #[.val (.long av), .second, .val (.long cv), .second, .val (.int fv), .val (.int lv), .val (.ref b76), .val (.int (Int32.ofNat ov)), .val (.int (Int32.ofNat nv)), .val (.int (Int32.ofNat (ov + nv))), .val (.long ((-72057594037927936 : Int64) ||| ((own_H DV ov nv) &&& (72057594037927935 : Int64)))), .second, .unset, .unset, .unset, .unset] [])) _
      refine XS.iload X138.here hx rfl (hb hby at_195) rfl ?_
      show Steps p.tables e below (T138.setTop (mkF m 197 #[.val (.long av), .second, .val (.long cv), .second, .val (.int fv), .val (.int lv), .val (.ref b76), .val (.int (Int32.ofNat ov)), .val (.int (Int32.ofNat nv)), .val (.int (Int32.ofNat (ov + nv))), .val (.long ((-72057594037927936 : Int64) ||| ((own_H DV ov nv) &&& (72057594037927935 : Int64)))), .second, .unset, .unset, .unset, .unset] [(.int (Int32.ofNat nv))])) _
      refine XS.bipush X138.here hx rfl (hb hby at_197) ?_
      show Steps p.tables e below (T138.setTop (mkF m 199 #[.val (.long av), .second, .val (.long cv), .second, .val (.int fv), .val (.int lv), .val (.ref b76), .val (.int (Int32.ofNat ov)), .val (.int (Int32.ofNat nv)), .val (.int (Int32.ofNat (ov + nv))), .val (.long ((-72057594037927936 : Int64) ||| ((own_H DV ov nv) &&& (72057594037927935 : Int64)))), .second, .unset, .unset, .unset, .unset] [(.int (7 : Int32)), (.int (Int32.ofNat nv))])) _
      exact kt
    have pre140 : ∀ t, Steps p.tables e below (T138.setTop (mkF m 291 #[.val (.long av), .second, .val (.long cv), .second, .val (.int fv), .val (.int lv), .val (.ref b76), .val (.int (Int32.ofNat ov)), .val (.int (Int32.ofNat nv)), .val (.int (Int32.ofNat (ov + nv))), .val (.long ((-72057594037927936 : Int64) ||| ((own_H DV ov nv) &&& (72057594037927935 : Int64)))), .second, .unset, .unset, .unset, .unset] [])) t → Steps p.tables e below (s₁.setTop (entryFrame m #[(.long av), (.long cv), (.int fv), (.int lv)] maxLocals)) t := fun t kt => by
      refine pre139 _ ?_
      show Steps p.tables e below (T138.setTop (mkF m 199 #[.val (.long av), .second, .val (.long cv), .second, .val (.int fv), .val (.int lv), .val (.ref b76), .val (.int (Int32.ofNat ov)), .val (.int (Int32.ofNat nv)), .val (.int (Int32.ofNat (ov + nv))), .val (.long ((-72057594037927936 : Int64) ||| ((own_H DV ov nv) &&& (72057594037927935 : Int64)))), .second, .unset, .unset, .unset, .unset] [(.int (7 : Int32)), (.int (Int32.ofNat nv))])) _
      refine XS.icmpYes X138.here hx rfl (pc0 := 199) (pc' := 291) rfl (hb hby at_199) rfl (tlt (h7.mpr hs)).2.2.1 (by decide) (by decide) ?_
      show Steps p.tables e below (T138.setTop (mkF m 291 #[.val (.long av), .second, .val (.long cv), .second, .val (.int fv), .val (.int lv), .val (.ref b76), .val (.int (Int32.ofNat ov)), .val (.int (Int32.ofNat nv)), .val (.int (Int32.ofNat (ov + nv))), .val (.long ((-72057594037927936 : Int64) ||| ((own_H DV ov nv) &&& (72057594037927935 : Int64)))), .second, .unset, .unset, .unset, .unset] [])) _
      exact kt
    have pre141 : ∀ t, Steps p.tables e below (T138.setTop (mkF m 294 #[.val (.long av), .second, .val (.long cv), .second, .val (.int fv), .val (.int lv), .val (.ref b76), .val (.int (Int32.ofNat ov)), .val (.int (Int32.ofNat nv)), .val (.int (Int32.ofNat (ov + nv))), .val (.long ((-72057594037927936 : Int64) ||| ((own_H DV ov nv) &&& (72057594037927935 : Int64)))), .second, .unset, .unset, .val (.long (0 : Int64)), .second] [])) t → Steps p.tables e below (s₁.setTop (entryFrame m #[(.long av), (.long cv), (.int fv), (.int lv)] maxLocals)) t := fun t kt => by
      refine pre140 _ ?_
      show Steps p.tables e below (T138.setTop (mkF m 291 #[.val (.long av), .second, .val (.long cv), .second, .val (.int fv), .val (.int lv), .val (.ref b76), .val (.int (Int32.ofNat ov)), .val (.int (Int32.ofNat nv)), .val (.int (Int32.ofNat (ov + nv))), .val (.long ((-72057594037927936 : Int64) ||| ((own_H DV ov nv) &&& (72057594037927935 : Int64)))), .second, .unset, .unset, .unset, .unset] [])) _
      refine XS.lconst X138.here hx rfl (hb hby at_291) ?_
      show Steps p.tables e below (T138.setTop (mkF m 292 #[.val (.long av), .second, .val (.long cv), .second, .val (.int fv), .val (.int lv), .val (.ref b76), .val (.int (Int32.ofNat ov)), .val (.int (Int32.ofNat nv)), .val (.int (Int32.ofNat (ov + nv))), .val (.long ((-72057594037927936 : Int64) ||| ((own_H DV ov nv) &&& (72057594037927935 : Int64)))), .second, .unset, .unset, .unset, .unset] [(.long (0 : Int64))])) _
      refine XS.lstore X138.here hx rfl (hb hby at_292) rfl (l' := #[.val (.long av), .second, .val (.long cv), .second, .val (.int fv), .val (.int lv), .val (.ref b76), .val (.int (Int32.ofNat ov)), .val (.int (Int32.ofNat nv)), .val (.int (Int32.ofNat (ov + nv))), .val (.long ((-72057594037927936 : Int64) ||| ((own_H DV ov nv) &&& (72057594037927935 : Int64)))), .second, .unset, .unset, .val (.long (0 : Int64)), .second]) rfl ?_
      show Steps p.tables e below (T138.setTop (mkF m 294 #[.val (.long av), .second, .val (.long cv), .second, .val (.int fv), .val (.int lv), .val (.ref b76), .val (.int (Int32.ofNat ov)), .val (.int (Int32.ofNat nv)), .val (.int (Int32.ofNat (ov + nv))), .val (.long ((-72057594037927936 : Int64) ||| ((own_H DV ov nv) &&& (72057594037927935 : Int64)))), .second, .unset, .unset, .val (.long (0 : Int64)), .second] [])) _
      exact kt
    have pre142 : ∀ t, Steps p.tables e below (T138.setTop (mkF m 294 #[.val (.long av), .second, .val (.long cv), .second, .val (.int fv), .val (.int lv), .val (.ref b76), .val (.int (Int32.ofNat ov)), .val (.int (Int32.ofNat nv)), .val (.int (Int32.ofNat (ov + nv))), .val (.long ((-72057594037927936 : Int64) ||| ((own_H DV ov nv) &&& (72057594037927935 : Int64)))), .second, .unset, .unset, .val (.long (own_H DV ov (min 0 nv))), .second] [])) t → Steps p.tables e below (s₁.setTop (entryFrame m #[(.long av), (.long cv), (.int fv), (.int lv)] maxLocals)) t := by
      rw [show min 0 nv = 0 by omega]
      exact pre141
    have pre143 : ∀ t, Steps p.tables e below (T138.setTop (mkF m 303 #[.val (.long av), .second, .val (.long cv), .second, .val (.int fv), .val (.int lv), .val (.ref b76), .val (.int (Int32.ofNat ov)), .val (.int (Int32.ofNat nv)), .val (.int (Int32.ofNat (ov + nv))), .val (.long ((-72057594037927936 : Int64) ||| ((own_H DV ov nv) &&& (72057594037927935 : Int64)))), .second, .unset, .unset, .val (.long (own_H DV ov (min 0 nv))), .second] [(.int (0 : Int32)), (.int (Int32.ofNat nv)), (.int (Int32.ofNat ov)), (.ref b76), (.long (own_H DV ov (min 0 nv)))])) t → Steps p.tables e below (s₁.setTop (entryFrame m #[(.long av), (.long cv), (.int fv), (.int lv)] maxLocals)) t := fun t kt => by
      refine pre142 _ ?_
      show Steps p.tables e below (T138.setTop (mkF m 294 #[.val (.long av), .second, .val (.long cv), .second, .val (.int fv), .val (.int lv), .val (.ref b76), .val (.int (Int32.ofNat ov)), .val (.int (Int32.ofNat nv)), .val (.int (Int32.ofNat (ov + nv))), .val (.long ((-72057594037927936 : Int64) ||| ((own_H DV ov nv) &&& (72057594037927935 : Int64)))), .second, .unset, .unset, .val (.long (own_H DV ov (min 0 nv))), .second] [])) _
      refine XS.lload X138.here hx rfl (hb hby at_294) rfl ?_
      show Steps p.tables e below (T138.setTop (mkF m 296 #[.val (.long av), .second, .val (.long cv), .second, .val (.int fv), .val (.int lv), .val (.ref b76), .val (.int (Int32.ofNat ov)), .val (.int (Int32.ofNat nv)), .val (.int (Int32.ofNat (ov + nv))), .val (.long ((-72057594037927936 : Int64) ||| ((own_H DV ov nv) &&& (72057594037927935 : Int64)))), .second, .unset, .unset, .val (.long (own_H DV ov (min 0 nv))), .second] [(.long (own_H DV ov (min 0 nv)))])) _
      refine XS.aload X138.here hx rfl (hb hby at_296) rfl rfl ?_
      show Steps p.tables e below (T138.setTop (mkF m 298 #[.val (.long av), .second, .val (.long cv), .second, .val (.int fv), .val (.int lv), .val (.ref b76), .val (.int (Int32.ofNat ov)), .val (.int (Int32.ofNat nv)), .val (.int (Int32.ofNat (ov + nv))), .val (.long ((-72057594037927936 : Int64) ||| ((own_H DV ov nv) &&& (72057594037927935 : Int64)))), .second, .unset, .unset, .val (.long (own_H DV ov (min 0 nv))), .second] [(.ref b76), (.long (own_H DV ov (min 0 nv)))])) _
      refine XS.iload X138.here hx rfl (hb hby at_298) rfl ?_
      show Steps p.tables e below (T138.setTop (mkF m 300 #[.val (.long av), .second, .val (.long cv), .second, .val (.int fv), .val (.int lv), .val (.ref b76), .val (.int (Int32.ofNat ov)), .val (.int (Int32.ofNat nv)), .val (.int (Int32.ofNat (ov + nv))), .val (.long ((-72057594037927936 : Int64) ||| ((own_H DV ov nv) &&& (72057594037927935 : Int64)))), .second, .unset, .unset, .val (.long (own_H DV ov (min 0 nv))), .second] [(.int (Int32.ofNat ov)), (.ref b76), (.long (own_H DV ov (min 0 nv)))])) _
      refine XS.iload X138.here hx rfl (hb hby at_300) rfl ?_
      show Steps p.tables e below (T138.setTop (mkF m 302 #[.val (.long av), .second, .val (.long cv), .second, .val (.int fv), .val (.int lv), .val (.ref b76), .val (.int (Int32.ofNat ov)), .val (.int (Int32.ofNat nv)), .val (.int (Int32.ofNat (ov + nv))), .val (.long ((-72057594037927936 : Int64) ||| ((own_H DV ov nv) &&& (72057594037927935 : Int64)))), .second, .unset, .unset, .val (.long (own_H DV ov (min 0 nv))), .second] [(.int (Int32.ofNat nv)), (.int (Int32.ofNat ov)), (.ref b76), (.long (own_H DV ov (min 0 nv)))])) _
      refine XS.iconst X138.here hx rfl (hb hby at_302) ?_
      show Steps p.tables e below (T138.setTop (mkF m 303 #[.val (.long av), .second, .val (.long cv), .second, .val (.int fv), .val (.int lv), .val (.ref b76), .val (.int (Int32.ofNat ov)), .val (.int (Int32.ofNat nv)), .val (.int (Int32.ofNat (ov + nv))), .val (.long ((-72057594037927936 : Int64) ||| ((own_H DV ov nv) &&& (72057594037927935 : Int64)))), .second, .unset, .unset, .val (.long (own_H DV ov (min 0 nv))), .second] [(.int (0 : Int32)), (.int (Int32.ofNat nv)), (.int (Int32.ofNat ov)), (.ref b76), (.long (own_H DV ov (min 0 nv)))])) _
      exact kt
    obtain ⟨v144, _, ⟨T144, L144, k144, n144⟩, -, X144, ⟨Lc144, hQ144, l144, y144, z144⟩, st144⟩ := Jvm.LawKit.callS X138 hx (y := (⟨"com/example/attestry/attestry/ParticipantNamesKeyPinLaw", "step", "(J[BIII)J"⟩ : MethodName)) hown (mvT hZ (hw _ (List.mem_of_getElem? (i := 13) rfl))) (mvT hZ (hw _ (List.mem_of_getElem? (i := 14) rfl))) (mvT hZ (hw _ (List.mem_of_getElem? (i := 8) rfl))) (mvT hZ (hw _ (List.mem_of_getElem? (i := 15) rfl))) (by decide) (backOf (W := 0) (rm3 l Z aZ hw [] (own_H DV ov (min 0 nv)) b76 ov nv 0 k76 vs DV T138.heap n0 Zs138 F138_0 hDV hon (by omega)) hZ (hw _ (List.mem_of_getElem? (i := 15) rfl)) (hw _ (List.mem_of_getElem? (i := 8) rfl)) (by decide) (by decide)) (g := (mkF m 303 #[.val (.long av), .second, .val (.long cv), .second, .val (.int fv), .val (.int lv), .val (.ref b76), .val (.int (Int32.ofNat ov)), .val (.int (Int32.ofNat nv)), .val (.int (Int32.ofNat (ov + nv))), .val (.long ((-72057594037927936 : Int64) ||| ((own_H DV ov nv) &&& (72057594037927935 : Int64)))), .second, .unset, .unset, .val (.long (own_H DV ov (min 0 nv))), .second] [(.int (0 : Int32)), (.int (Int32.ofNat nv)), (.int (Int32.ofNat ov)), (.ref b76), (.long (own_H DV ov (min 0 nv)))])) rfl (by rw [hml]; rfl) (argsL := [(.long (own_H DV ov (min 0 nv))), (.ref b76), (.int (Int32.ofNat ov)), (.int (Int32.ofNat nv)), (.int (0 : Int32))]) (rest := []) (lenOf pd_2 rfl) rfl (by show 2 * 0 + _ ≤ _; exact Nat.le_of_eq rfl) (hb hby at_303) (fun _ _ => ⟨rfl, rfl, (by decide : 1 + 0 ≤ _), (by decide : 16 + 0 ≤ _)⟩)
    dsimp only [Pt.U, Pt.locs, Pt.cells, Pt.slots] at X144 l144 y144 z144 st144 hQ144
    rw [l144, y144, z144] at X144
    clear l144 y144 z144
    obtain ⟨vq144, N144q, e144⟩ := hQ144
    rw [vq144] at st144
    have N144 := Fr.app N138 N144q
    have pre144 : ∀ t, Steps p.tables e below (T144.setTop (mkF m 306 #[.val (.long av), .second, .val (.long cv), .second, .val (.int fv), .val (.int lv), .val (.ref b76), .val (.int (Int32.ofNat ov)), .val (.int (Int32.ofNat nv)), .val (.int (Int32.ofNat (ov + nv))), .val (.long ((-72057594037927936 : Int64) ||| ((own_H DV ov nv) &&& (72057594037927935 : Int64)))), .second, .unset, .unset, .val (.long (own_H DV ov (min 0 nv))), .second] [(.long (f3 (own_H DV ov (min 0 nv)) ov nv 0 DV))])) t → Steps p.tables e below (s₁.setTop (entryFrame m #[(.long av), (.long cv), (.int fv), (.int lv)] maxLocals)) t := fun t kt => pre143 _ (st144 t kt)
    have pre145 : ∀ t, Steps p.tables e below (T144.setTop (mkF m 306 #[.val (.long av), .second, .val (.long cv), .second, .val (.int fv), .val (.int lv), .val (.ref b76), .val (.int (Int32.ofNat ov)), .val (.int (Int32.ofNat nv)), .val (.int (Int32.ofNat (ov + nv))), .val (.long ((-72057594037927936 : Int64) ||| ((own_H DV ov nv) &&& (72057594037927935 : Int64)))), .second, .unset, .unset, .val (.long (own_H DV ov (min 0 nv))), .second] [(.long (own_H DV ov (min 1 nv)))])) t → Steps p.tables e below (s₁.setTop (entryFrame m #[(.long av), (.long cv), (.int fv), (.int lv)] maxLocals)) t := by
      have q := pre144
      rw [own_step DV ov nv 0 (by omega) (by omega)] at q
      exact q
    have pre146 : ∀ t, Steps p.tables e below (T144.setTop (mkF m 317 #[.val (.long av), .second, .val (.long cv), .second, .val (.int fv), .val (.int lv), .val (.ref b76), .val (.int (Int32.ofNat ov)), .val (.int (Int32.ofNat nv)), .val (.int (Int32.ofNat (ov + nv))), .val (.long ((-72057594037927936 : Int64) ||| ((own_H DV ov nv) &&& (72057594037927935 : Int64)))), .second, .unset, .unset, .val (.long (own_H DV ov (min 1 nv))), .second] [(.int (1 : Int32)), (.int (Int32.ofNat nv)), (.int (Int32.ofNat ov)), (.ref b76), (.long (own_H DV ov (min 1 nv)))])) t → Steps p.tables e below (s₁.setTop (entryFrame m #[(.long av), (.long cv), (.int fv), (.int lv)] maxLocals)) t := fun t kt => by
      refine pre145 _ ?_
      show Steps p.tables e below (T144.setTop (mkF m 306 #[.val (.long av), .second, .val (.long cv), .second, .val (.int fv), .val (.int lv), .val (.ref b76), .val (.int (Int32.ofNat ov)), .val (.int (Int32.ofNat nv)), .val (.int (Int32.ofNat (ov + nv))), .val (.long ((-72057594037927936 : Int64) ||| ((own_H DV ov nv) &&& (72057594037927935 : Int64)))), .second, .unset, .unset, .val (.long (own_H DV ov (min 0 nv))), .second] [(.long (own_H DV ov (min 1 nv)))])) _
      refine XS.lstore X144.here hx rfl (hb hby at_306) rfl (l' := #[.val (.long av), .second, .val (.long cv), .second, .val (.int fv), .val (.int lv), .val (.ref b76), .val (.int (Int32.ofNat ov)), .val (.int (Int32.ofNat nv)), .val (.int (Int32.ofNat (ov + nv))), .val (.long ((-72057594037927936 : Int64) ||| ((own_H DV ov nv) &&& (72057594037927935 : Int64)))), .second, .unset, .unset, .val (.long (own_H DV ov (min 1 nv))), .second]) rfl ?_
      show Steps p.tables e below (T144.setTop (mkF m 308 #[.val (.long av), .second, .val (.long cv), .second, .val (.int fv), .val (.int lv), .val (.ref b76), .val (.int (Int32.ofNat ov)), .val (.int (Int32.ofNat nv)), .val (.int (Int32.ofNat (ov + nv))), .val (.long ((-72057594037927936 : Int64) ||| ((own_H DV ov nv) &&& (72057594037927935 : Int64)))), .second, .unset, .unset, .val (.long (own_H DV ov (min 1 nv))), .second] [])) _
      refine XS.lload X144.here hx rfl (hb hby at_308) rfl ?_
      show Steps p.tables e below (T144.setTop (mkF m 310 #[.val (.long av), .second, .val (.long cv), .second, .val (.int fv), .val (.int lv), .val (.ref b76), .val (.int (Int32.ofNat ov)), .val (.int (Int32.ofNat nv)), .val (.int (Int32.ofNat (ov + nv))), .val (.long ((-72057594037927936 : Int64) ||| ((own_H DV ov nv) &&& (72057594037927935 : Int64)))), .second, .unset, .unset, .val (.long (own_H DV ov (min 1 nv))), .second] [(.long (own_H DV ov (min 1 nv)))])) _
      refine XS.aload X144.here hx rfl (hb hby at_310) rfl rfl ?_
      show Steps p.tables e below (T144.setTop (mkF m 312 #[.val (.long av), .second, .val (.long cv), .second, .val (.int fv), .val (.int lv), .val (.ref b76), .val (.int (Int32.ofNat ov)), .val (.int (Int32.ofNat nv)), .val (.int (Int32.ofNat (ov + nv))), .val (.long ((-72057594037927936 : Int64) ||| ((own_H DV ov nv) &&& (72057594037927935 : Int64)))), .second, .unset, .unset, .val (.long (own_H DV ov (min 1 nv))), .second] [(.ref b76), (.long (own_H DV ov (min 1 nv)))])) _
      refine XS.iload X144.here hx rfl (hb hby at_312) rfl ?_
      show Steps p.tables e below (T144.setTop (mkF m 314 #[.val (.long av), .second, .val (.long cv), .second, .val (.int fv), .val (.int lv), .val (.ref b76), .val (.int (Int32.ofNat ov)), .val (.int (Int32.ofNat nv)), .val (.int (Int32.ofNat (ov + nv))), .val (.long ((-72057594037927936 : Int64) ||| ((own_H DV ov nv) &&& (72057594037927935 : Int64)))), .second, .unset, .unset, .val (.long (own_H DV ov (min 1 nv))), .second] [(.int (Int32.ofNat ov)), (.ref b76), (.long (own_H DV ov (min 1 nv)))])) _
      refine XS.iload X144.here hx rfl (hb hby at_314) rfl ?_
      show Steps p.tables e below (T144.setTop (mkF m 316 #[.val (.long av), .second, .val (.long cv), .second, .val (.int fv), .val (.int lv), .val (.ref b76), .val (.int (Int32.ofNat ov)), .val (.int (Int32.ofNat nv)), .val (.int (Int32.ofNat (ov + nv))), .val (.long ((-72057594037927936 : Int64) ||| ((own_H DV ov nv) &&& (72057594037927935 : Int64)))), .second, .unset, .unset, .val (.long (own_H DV ov (min 1 nv))), .second] [(.int (Int32.ofNat nv)), (.int (Int32.ofNat ov)), (.ref b76), (.long (own_H DV ov (min 1 nv)))])) _
      refine XS.iconst X144.here hx rfl (hb hby at_316) ?_
      show Steps p.tables e below (T144.setTop (mkF m 317 #[.val (.long av), .second, .val (.long cv), .second, .val (.int fv), .val (.int lv), .val (.ref b76), .val (.int (Int32.ofNat ov)), .val (.int (Int32.ofNat nv)), .val (.int (Int32.ofNat (ov + nv))), .val (.long ((-72057594037927936 : Int64) ||| ((own_H DV ov nv) &&& (72057594037927935 : Int64)))), .second, .unset, .unset, .val (.long (own_H DV ov (min 1 nv))), .second] [(.int (1 : Int32)), (.int (Int32.ofNat nv)), (.int (Int32.ofNat ov)), (.ref b76), (.long (own_H DV ov (min 1 nv)))])) _
      exact kt
    obtain ⟨v147, _, ⟨T147, L147, k147, n147⟩, -, X147, ⟨Lc147, hQ147, l147, y147, z147⟩, st147⟩ := Jvm.LawKit.callS X144 hx (y := (⟨"com/example/attestry/attestry/ParticipantNamesKeyPinLaw", "step", "(J[BIII)J"⟩ : MethodName)) hown (mvT hZ (hw _ (List.mem_of_getElem? (i := 13) rfl))) (mvT hZ (hw _ (List.mem_of_getElem? (i := 14) rfl))) (mvT hZ (hw _ (List.mem_of_getElem? (i := 8) rfl))) (mvT hZ (hw _ (List.mem_of_getElem? (i := 15) rfl))) (by decide) (backOf (W := 0) (rm3 l Z aZ hw [] (own_H DV ov (min 1 nv)) b76 ov nv 1 k76 vs DV T138.heap n0 Zs138 F138_0 hDV hon (by omega)) hZ (hw _ (List.mem_of_getElem? (i := 15) rfl)) (hw _ (List.mem_of_getElem? (i := 8) rfl)) (by decide) (by decide)) (g := (mkF m 317 #[.val (.long av), .second, .val (.long cv), .second, .val (.int fv), .val (.int lv), .val (.ref b76), .val (.int (Int32.ofNat ov)), .val (.int (Int32.ofNat nv)), .val (.int (Int32.ofNat (ov + nv))), .val (.long ((-72057594037927936 : Int64) ||| ((own_H DV ov nv) &&& (72057594037927935 : Int64)))), .second, .unset, .unset, .val (.long (own_H DV ov (min 1 nv))), .second] [(.int (1 : Int32)), (.int (Int32.ofNat nv)), (.int (Int32.ofNat ov)), (.ref b76), (.long (own_H DV ov (min 1 nv)))])) rfl (by rw [hml]; rfl) (argsL := [(.long (own_H DV ov (min 1 nv))), (.ref b76), (.int (Int32.ofNat ov)), (.int (Int32.ofNat nv)), (.int (1 : Int32))]) (rest := []) (lenOf pd_2 rfl) rfl (by show 2 * 0 + _ ≤ _; exact Nat.le_of_eq rfl) (hb hby at_317) (fun _ _ => ⟨rfl, e144, (by decide : 1 + 0 ≤ _), (by decide : 16 + 0 ≤ _)⟩)
    dsimp only [Pt.U, Pt.locs, Pt.cells, Pt.slots] at X147 l147 y147 z147 st147 hQ147
    rw [l147, y147, z147] at X147
    clear l147 y147 z147
    obtain ⟨vq147, N147q, e147⟩ := hQ147
    rw [vq147] at st147
    have N147 := Fr.app N144 N147q
    have pre147 : ∀ t, Steps p.tables e below (T147.setTop (mkF m 320 #[.val (.long av), .second, .val (.long cv), .second, .val (.int fv), .val (.int lv), .val (.ref b76), .val (.int (Int32.ofNat ov)), .val (.int (Int32.ofNat nv)), .val (.int (Int32.ofNat (ov + nv))), .val (.long ((-72057594037927936 : Int64) ||| ((own_H DV ov nv) &&& (72057594037927935 : Int64)))), .second, .unset, .unset, .val (.long (own_H DV ov (min 1 nv))), .second] [(.long (f3 (own_H DV ov (min 1 nv)) ov nv 1 DV))])) t → Steps p.tables e below (s₁.setTop (entryFrame m #[(.long av), (.long cv), (.int fv), (.int lv)] maxLocals)) t := fun t kt => pre146 _ (st147 t kt)
    have pre148 : ∀ t, Steps p.tables e below (T147.setTop (mkF m 320 #[.val (.long av), .second, .val (.long cv), .second, .val (.int fv), .val (.int lv), .val (.ref b76), .val (.int (Int32.ofNat ov)), .val (.int (Int32.ofNat nv)), .val (.int (Int32.ofNat (ov + nv))), .val (.long ((-72057594037927936 : Int64) ||| ((own_H DV ov nv) &&& (72057594037927935 : Int64)))), .second, .unset, .unset, .val (.long (own_H DV ov (min 1 nv))), .second] [(.long (own_H DV ov (min 2 nv)))])) t → Steps p.tables e below (s₁.setTop (entryFrame m #[(.long av), (.long cv), (.int fv), (.int lv)] maxLocals)) t := by
      have q := pre147
      rw [own_step DV ov nv 1 (by omega) (by omega)] at q
      exact q
    have pre149 : ∀ t, Steps p.tables e below (T147.setTop (mkF m 331 #[.val (.long av), .second, .val (.long cv), .second, .val (.int fv), .val (.int lv), .val (.ref b76), .val (.int (Int32.ofNat ov)), .val (.int (Int32.ofNat nv)), .val (.int (Int32.ofNat (ov + nv))), .val (.long ((-72057594037927936 : Int64) ||| ((own_H DV ov nv) &&& (72057594037927935 : Int64)))), .second, .unset, .unset, .val (.long (own_H DV ov (min 2 nv))), .second] [(.int (2 : Int32)), (.int (Int32.ofNat nv)), (.int (Int32.ofNat ov)), (.ref b76), (.long (own_H DV ov (min 2 nv)))])) t → Steps p.tables e below (s₁.setTop (entryFrame m #[(.long av), (.long cv), (.int fv), (.int lv)] maxLocals)) t := fun t kt => by
      refine pre148 _ ?_
      show Steps p.tables e below (T147.setTop (mkF m 320 #[.val (.long av), .second, .val (.long cv), .second, .val (.int fv), .val (.int lv), .val (.ref b76), .val (.int (Int32.ofNat ov)), .val (.int (Int32.ofNat nv)), .val (.int (Int32.ofNat (ov + nv))), .val (.long ((-72057594037927936 : Int64) ||| ((own_H DV ov nv) &&& (72057594037927935 : Int64)))), .second, .unset, .unset, .val (.long (own_H DV ov (min 1 nv))), .second] [(.long (own_H DV ov (min 2 nv)))])) _
      refine XS.lstore X147.here hx rfl (hb hby at_320) rfl (l' := #[.val (.long av), .second, .val (.long cv), .second, .val (.int fv), .val (.int lv), .val (.ref b76), .val (.int (Int32.ofNat ov)), .val (.int (Int32.ofNat nv)), .val (.int (Int32.ofNat (ov + nv))), .val (.long ((-72057594037927936 : Int64) ||| ((own_H DV ov nv) &&& (72057594037927935 : Int64)))), .second, .unset, .unset, .val (.long (own_H DV ov (min 2 nv))), .second]) rfl ?_
      show Steps p.tables e below (T147.setTop (mkF m 322 #[.val (.long av), .second, .val (.long cv), .second, .val (.int fv), .val (.int lv), .val (.ref b76), .val (.int (Int32.ofNat ov)), .val (.int (Int32.ofNat nv)), .val (.int (Int32.ofNat (ov + nv))), .val (.long ((-72057594037927936 : Int64) ||| ((own_H DV ov nv) &&& (72057594037927935 : Int64)))), .second, .unset, .unset, .val (.long (own_H DV ov (min 2 nv))), .second] [])) _
      refine XS.lload X147.here hx rfl (hb hby at_322) rfl ?_
      show Steps p.tables e below (T147.setTop (mkF m 324 #[.val (.long av), .second, .val (.long cv), .second, .val (.int fv), .val (.int lv), .val (.ref b76), .val (.int (Int32.ofNat ov)), .val (.int (Int32.ofNat nv)), .val (.int (Int32.ofNat (ov + nv))), .val (.long ((-72057594037927936 : Int64) ||| ((own_H DV ov nv) &&& (72057594037927935 : Int64)))), .second, .unset, .unset, .val (.long (own_H DV ov (min 2 nv))), .second] [(.long (own_H DV ov (min 2 nv)))])) _
      refine XS.aload X147.here hx rfl (hb hby at_324) rfl rfl ?_
      show Steps p.tables e below (T147.setTop (mkF m 326 #[.val (.long av), .second, .val (.long cv), .second, .val (.int fv), .val (.int lv), .val (.ref b76), .val (.int (Int32.ofNat ov)), .val (.int (Int32.ofNat nv)), .val (.int (Int32.ofNat (ov + nv))), .val (.long ((-72057594037927936 : Int64) ||| ((own_H DV ov nv) &&& (72057594037927935 : Int64)))), .second, .unset, .unset, .val (.long (own_H DV ov (min 2 nv))), .second] [(.ref b76), (.long (own_H DV ov (min 2 nv)))])) _
      refine XS.iload X147.here hx rfl (hb hby at_326) rfl ?_
      show Steps p.tables e below (T147.setTop (mkF m 328 #[.val (.long av), .second, .val (.long cv), .second, .val (.int fv), .val (.int lv), .val (.ref b76), .val (.int (Int32.ofNat ov)), .val (.int (Int32.ofNat nv)), .val (.int (Int32.ofNat (ov + nv))), .val (.long ((-72057594037927936 : Int64) ||| ((own_H DV ov nv) &&& (72057594037927935 : Int64)))), .second, .unset, .unset, .val (.long (own_H DV ov (min 2 nv))), .second] [(.int (Int32.ofNat ov)), (.ref b76), (.long (own_H DV ov (min 2 nv)))])) _
      refine XS.iload X147.here hx rfl (hb hby at_328) rfl ?_
      show Steps p.tables e below (T147.setTop (mkF m 330 #[.val (.long av), .second, .val (.long cv), .second, .val (.int fv), .val (.int lv), .val (.ref b76), .val (.int (Int32.ofNat ov)), .val (.int (Int32.ofNat nv)), .val (.int (Int32.ofNat (ov + nv))), .val (.long ((-72057594037927936 : Int64) ||| ((own_H DV ov nv) &&& (72057594037927935 : Int64)))), .second, .unset, .unset, .val (.long (own_H DV ov (min 2 nv))), .second] [(.int (Int32.ofNat nv)), (.int (Int32.ofNat ov)), (.ref b76), (.long (own_H DV ov (min 2 nv)))])) _
      refine XS.iconst X147.here hx rfl (hb hby at_330) ?_
      show Steps p.tables e below (T147.setTop (mkF m 331 #[.val (.long av), .second, .val (.long cv), .second, .val (.int fv), .val (.int lv), .val (.ref b76), .val (.int (Int32.ofNat ov)), .val (.int (Int32.ofNat nv)), .val (.int (Int32.ofNat (ov + nv))), .val (.long ((-72057594037927936 : Int64) ||| ((own_H DV ov nv) &&& (72057594037927935 : Int64)))), .second, .unset, .unset, .val (.long (own_H DV ov (min 2 nv))), .second] [(.int (2 : Int32)), (.int (Int32.ofNat nv)), (.int (Int32.ofNat ov)), (.ref b76), (.long (own_H DV ov (min 2 nv)))])) _
      exact kt
    obtain ⟨v150, _, ⟨T150, L150, k150, n150⟩, -, X150, ⟨Lc150, hQ150, l150, y150, z150⟩, st150⟩ := Jvm.LawKit.callS X147 hx (y := (⟨"com/example/attestry/attestry/ParticipantNamesKeyPinLaw", "step", "(J[BIII)J"⟩ : MethodName)) hown (mvT hZ (hw _ (List.mem_of_getElem? (i := 13) rfl))) (mvT hZ (hw _ (List.mem_of_getElem? (i := 14) rfl))) (mvT hZ (hw _ (List.mem_of_getElem? (i := 8) rfl))) (mvT hZ (hw _ (List.mem_of_getElem? (i := 15) rfl))) (by decide) (backOf (W := 0) (rm3 l Z aZ hw [] (own_H DV ov (min 2 nv)) b76 ov nv 2 k76 vs DV T138.heap n0 Zs138 F138_0 hDV hon (by omega)) hZ (hw _ (List.mem_of_getElem? (i := 15) rfl)) (hw _ (List.mem_of_getElem? (i := 8) rfl)) (by decide) (by decide)) (g := (mkF m 331 #[.val (.long av), .second, .val (.long cv), .second, .val (.int fv), .val (.int lv), .val (.ref b76), .val (.int (Int32.ofNat ov)), .val (.int (Int32.ofNat nv)), .val (.int (Int32.ofNat (ov + nv))), .val (.long ((-72057594037927936 : Int64) ||| ((own_H DV ov nv) &&& (72057594037927935 : Int64)))), .second, .unset, .unset, .val (.long (own_H DV ov (min 2 nv))), .second] [(.int (2 : Int32)), (.int (Int32.ofNat nv)), (.int (Int32.ofNat ov)), (.ref b76), (.long (own_H DV ov (min 2 nv)))])) rfl (by rw [hml]; rfl) (argsL := [(.long (own_H DV ov (min 2 nv))), (.ref b76), (.int (Int32.ofNat ov)), (.int (Int32.ofNat nv)), (.int (2 : Int32))]) (rest := []) (lenOf pd_2 rfl) rfl (by show 2 * 0 + _ ≤ _; exact Nat.le_of_eq rfl) (hb hby at_331) (fun _ _ => ⟨rfl, e147, (by decide : 1 + 0 ≤ _), (by decide : 16 + 0 ≤ _)⟩)
    dsimp only [Pt.U, Pt.locs, Pt.cells, Pt.slots] at X150 l150 y150 z150 st150 hQ150
    rw [l150, y150, z150] at X150
    clear l150 y150 z150
    obtain ⟨vq150, N150q, e150⟩ := hQ150
    rw [vq150] at st150
    have N150 := Fr.app N147 N150q
    have pre150 : ∀ t, Steps p.tables e below (T150.setTop (mkF m 334 #[.val (.long av), .second, .val (.long cv), .second, .val (.int fv), .val (.int lv), .val (.ref b76), .val (.int (Int32.ofNat ov)), .val (.int (Int32.ofNat nv)), .val (.int (Int32.ofNat (ov + nv))), .val (.long ((-72057594037927936 : Int64) ||| ((own_H DV ov nv) &&& (72057594037927935 : Int64)))), .second, .unset, .unset, .val (.long (own_H DV ov (min 2 nv))), .second] [(.long (f3 (own_H DV ov (min 2 nv)) ov nv 2 DV))])) t → Steps p.tables e below (s₁.setTop (entryFrame m #[(.long av), (.long cv), (.int fv), (.int lv)] maxLocals)) t := fun t kt => pre149 _ (st150 t kt)
    have pre151 : ∀ t, Steps p.tables e below (T150.setTop (mkF m 334 #[.val (.long av), .second, .val (.long cv), .second, .val (.int fv), .val (.int lv), .val (.ref b76), .val (.int (Int32.ofNat ov)), .val (.int (Int32.ofNat nv)), .val (.int (Int32.ofNat (ov + nv))), .val (.long ((-72057594037927936 : Int64) ||| ((own_H DV ov nv) &&& (72057594037927935 : Int64)))), .second, .unset, .unset, .val (.long (own_H DV ov (min 2 nv))), .second] [(.long (own_H DV ov (min 3 nv)))])) t → Steps p.tables e below (s₁.setTop (entryFrame m #[(.long av), (.long cv), (.int fv), (.int lv)] maxLocals)) t := by
      have q := pre150
      rw [own_step DV ov nv 2 (by omega) (by omega)] at q
      exact q
    have pre152 : ∀ t, Steps p.tables e below (T150.setTop (mkF m 345 #[.val (.long av), .second, .val (.long cv), .second, .val (.int fv), .val (.int lv), .val (.ref b76), .val (.int (Int32.ofNat ov)), .val (.int (Int32.ofNat nv)), .val (.int (Int32.ofNat (ov + nv))), .val (.long ((-72057594037927936 : Int64) ||| ((own_H DV ov nv) &&& (72057594037927935 : Int64)))), .second, .unset, .unset, .val (.long (own_H DV ov (min 3 nv))), .second] [(.int (3 : Int32)), (.int (Int32.ofNat nv)), (.int (Int32.ofNat ov)), (.ref b76), (.long (own_H DV ov (min 3 nv)))])) t → Steps p.tables e below (s₁.setTop (entryFrame m #[(.long av), (.long cv), (.int fv), (.int lv)] maxLocals)) t := fun t kt => by
      refine pre151 _ ?_
      show Steps p.tables e below (T150.setTop (mkF m 334 #[.val (.long av), .second, .val (.long cv), .second, .val (.int fv), .val (.int lv), .val (.ref b76), .val (.int (Int32.ofNat ov)), .val (.int (Int32.ofNat nv)), .val (.int (Int32.ofNat (ov + nv))), .val (.long ((-72057594037927936 : Int64) ||| ((own_H DV ov nv) &&& (72057594037927935 : Int64)))), .second, .unset, .unset, .val (.long (own_H DV ov (min 2 nv))), .second] [(.long (own_H DV ov (min 3 nv)))])) _
      refine XS.lstore X150.here hx rfl (hb hby at_334) rfl (l' := #[.val (.long av), .second, .val (.long cv), .second, .val (.int fv), .val (.int lv), .val (.ref b76), .val (.int (Int32.ofNat ov)), .val (.int (Int32.ofNat nv)), .val (.int (Int32.ofNat (ov + nv))), .val (.long ((-72057594037927936 : Int64) ||| ((own_H DV ov nv) &&& (72057594037927935 : Int64)))), .second, .unset, .unset, .val (.long (own_H DV ov (min 3 nv))), .second]) rfl ?_
      show Steps p.tables e below (T150.setTop (mkF m 336 #[.val (.long av), .second, .val (.long cv), .second, .val (.int fv), .val (.int lv), .val (.ref b76), .val (.int (Int32.ofNat ov)), .val (.int (Int32.ofNat nv)), .val (.int (Int32.ofNat (ov + nv))), .val (.long ((-72057594037927936 : Int64) ||| ((own_H DV ov nv) &&& (72057594037927935 : Int64)))), .second, .unset, .unset, .val (.long (own_H DV ov (min 3 nv))), .second] [])) _
      refine XS.lload X150.here hx rfl (hb hby at_336) rfl ?_
      show Steps p.tables e below (T150.setTop (mkF m 338 #[.val (.long av), .second, .val (.long cv), .second, .val (.int fv), .val (.int lv), .val (.ref b76), .val (.int (Int32.ofNat ov)), .val (.int (Int32.ofNat nv)), .val (.int (Int32.ofNat (ov + nv))), .val (.long ((-72057594037927936 : Int64) ||| ((own_H DV ov nv) &&& (72057594037927935 : Int64)))), .second, .unset, .unset, .val (.long (own_H DV ov (min 3 nv))), .second] [(.long (own_H DV ov (min 3 nv)))])) _
      refine XS.aload X150.here hx rfl (hb hby at_338) rfl rfl ?_
      show Steps p.tables e below (T150.setTop (mkF m 340 #[.val (.long av), .second, .val (.long cv), .second, .val (.int fv), .val (.int lv), .val (.ref b76), .val (.int (Int32.ofNat ov)), .val (.int (Int32.ofNat nv)), .val (.int (Int32.ofNat (ov + nv))), .val (.long ((-72057594037927936 : Int64) ||| ((own_H DV ov nv) &&& (72057594037927935 : Int64)))), .second, .unset, .unset, .val (.long (own_H DV ov (min 3 nv))), .second] [(.ref b76), (.long (own_H DV ov (min 3 nv)))])) _
      refine XS.iload X150.here hx rfl (hb hby at_340) rfl ?_
      show Steps p.tables e below (T150.setTop (mkF m 342 #[.val (.long av), .second, .val (.long cv), .second, .val (.int fv), .val (.int lv), .val (.ref b76), .val (.int (Int32.ofNat ov)), .val (.int (Int32.ofNat nv)), .val (.int (Int32.ofNat (ov + nv))), .val (.long ((-72057594037927936 : Int64) ||| ((own_H DV ov nv) &&& (72057594037927935 : Int64)))), .second, .unset, .unset, .val (.long (own_H DV ov (min 3 nv))), .second] [(.int (Int32.ofNat ov)), (.ref b76), (.long (own_H DV ov (min 3 nv)))])) _
      refine XS.iload X150.here hx rfl (hb hby at_342) rfl ?_
      show Steps p.tables e below (T150.setTop (mkF m 344 #[.val (.long av), .second, .val (.long cv), .second, .val (.int fv), .val (.int lv), .val (.ref b76), .val (.int (Int32.ofNat ov)), .val (.int (Int32.ofNat nv)), .val (.int (Int32.ofNat (ov + nv))), .val (.long ((-72057594037927936 : Int64) ||| ((own_H DV ov nv) &&& (72057594037927935 : Int64)))), .second, .unset, .unset, .val (.long (own_H DV ov (min 3 nv))), .second] [(.int (Int32.ofNat nv)), (.int (Int32.ofNat ov)), (.ref b76), (.long (own_H DV ov (min 3 nv)))])) _
      refine XS.iconst X150.here hx rfl (hb hby at_344) ?_
      show Steps p.tables e below (T150.setTop (mkF m 345 #[.val (.long av), .second, .val (.long cv), .second, .val (.int fv), .val (.int lv), .val (.ref b76), .val (.int (Int32.ofNat ov)), .val (.int (Int32.ofNat nv)), .val (.int (Int32.ofNat (ov + nv))), .val (.long ((-72057594037927936 : Int64) ||| ((own_H DV ov nv) &&& (72057594037927935 : Int64)))), .second, .unset, .unset, .val (.long (own_H DV ov (min 3 nv))), .second] [(.int (3 : Int32)), (.int (Int32.ofNat nv)), (.int (Int32.ofNat ov)), (.ref b76), (.long (own_H DV ov (min 3 nv)))])) _
      exact kt
    obtain ⟨v153, _, ⟨T153, L153, k153, n153⟩, -, X153, ⟨Lc153, hQ153, l153, y153, z153⟩, st153⟩ := Jvm.LawKit.callS X150 hx (y := (⟨"com/example/attestry/attestry/ParticipantNamesKeyPinLaw", "step", "(J[BIII)J"⟩ : MethodName)) hown (mvT hZ (hw _ (List.mem_of_getElem? (i := 13) rfl))) (mvT hZ (hw _ (List.mem_of_getElem? (i := 14) rfl))) (mvT hZ (hw _ (List.mem_of_getElem? (i := 8) rfl))) (mvT hZ (hw _ (List.mem_of_getElem? (i := 15) rfl))) (by decide) (backOf (W := 0) (rm3 l Z aZ hw [] (own_H DV ov (min 3 nv)) b76 ov nv 3 k76 vs DV T138.heap n0 Zs138 F138_0 hDV hon (by omega)) hZ (hw _ (List.mem_of_getElem? (i := 15) rfl)) (hw _ (List.mem_of_getElem? (i := 8) rfl)) (by decide) (by decide)) (g := (mkF m 345 #[.val (.long av), .second, .val (.long cv), .second, .val (.int fv), .val (.int lv), .val (.ref b76), .val (.int (Int32.ofNat ov)), .val (.int (Int32.ofNat nv)), .val (.int (Int32.ofNat (ov + nv))), .val (.long ((-72057594037927936 : Int64) ||| ((own_H DV ov nv) &&& (72057594037927935 : Int64)))), .second, .unset, .unset, .val (.long (own_H DV ov (min 3 nv))), .second] [(.int (3 : Int32)), (.int (Int32.ofNat nv)), (.int (Int32.ofNat ov)), (.ref b76), (.long (own_H DV ov (min 3 nv)))])) rfl (by rw [hml]; rfl) (argsL := [(.long (own_H DV ov (min 3 nv))), (.ref b76), (.int (Int32.ofNat ov)), (.int (Int32.ofNat nv)), (.int (3 : Int32))]) (rest := []) (lenOf pd_2 rfl) rfl (by show 2 * 0 + _ ≤ _; exact Nat.le_of_eq rfl) (hb hby at_345) (fun _ _ => ⟨rfl, e150, (by decide : 1 + 0 ≤ _), (by decide : 16 + 0 ≤ _)⟩)
    dsimp only [Pt.U, Pt.locs, Pt.cells, Pt.slots] at X153 l153 y153 z153 st153 hQ153
    rw [l153, y153, z153] at X153
    clear l153 y153 z153
    obtain ⟨vq153, N153q, e153⟩ := hQ153
    rw [vq153] at st153
    have N153 := Fr.app N150 N153q
    have pre153 : ∀ t, Steps p.tables e below (T153.setTop (mkF m 348 #[.val (.long av), .second, .val (.long cv), .second, .val (.int fv), .val (.int lv), .val (.ref b76), .val (.int (Int32.ofNat ov)), .val (.int (Int32.ofNat nv)), .val (.int (Int32.ofNat (ov + nv))), .val (.long ((-72057594037927936 : Int64) ||| ((own_H DV ov nv) &&& (72057594037927935 : Int64)))), .second, .unset, .unset, .val (.long (own_H DV ov (min 3 nv))), .second] [(.long (f3 (own_H DV ov (min 3 nv)) ov nv 3 DV))])) t → Steps p.tables e below (s₁.setTop (entryFrame m #[(.long av), (.long cv), (.int fv), (.int lv)] maxLocals)) t := fun t kt => pre152 _ (st153 t kt)
    have pre154 : ∀ t, Steps p.tables e below (T153.setTop (mkF m 348 #[.val (.long av), .second, .val (.long cv), .second, .val (.int fv), .val (.int lv), .val (.ref b76), .val (.int (Int32.ofNat ov)), .val (.int (Int32.ofNat nv)), .val (.int (Int32.ofNat (ov + nv))), .val (.long ((-72057594037927936 : Int64) ||| ((own_H DV ov nv) &&& (72057594037927935 : Int64)))), .second, .unset, .unset, .val (.long (own_H DV ov (min 3 nv))), .second] [(.long (own_H DV ov (min 4 nv)))])) t → Steps p.tables e below (s₁.setTop (entryFrame m #[(.long av), (.long cv), (.int fv), (.int lv)] maxLocals)) t := by
      have q := pre153
      rw [own_step DV ov nv 3 (by omega) (by omega)] at q
      exact q
    have pre155 : ∀ t, Steps p.tables e below (T153.setTop (mkF m 359 #[.val (.long av), .second, .val (.long cv), .second, .val (.int fv), .val (.int lv), .val (.ref b76), .val (.int (Int32.ofNat ov)), .val (.int (Int32.ofNat nv)), .val (.int (Int32.ofNat (ov + nv))), .val (.long ((-72057594037927936 : Int64) ||| ((own_H DV ov nv) &&& (72057594037927935 : Int64)))), .second, .unset, .unset, .val (.long (own_H DV ov (min 4 nv))), .second] [(.int (4 : Int32)), (.int (Int32.ofNat nv)), (.int (Int32.ofNat ov)), (.ref b76), (.long (own_H DV ov (min 4 nv)))])) t → Steps p.tables e below (s₁.setTop (entryFrame m #[(.long av), (.long cv), (.int fv), (.int lv)] maxLocals)) t := fun t kt => by
      refine pre154 _ ?_
      show Steps p.tables e below (T153.setTop (mkF m 348 #[.val (.long av), .second, .val (.long cv), .second, .val (.int fv), .val (.int lv), .val (.ref b76), .val (.int (Int32.ofNat ov)), .val (.int (Int32.ofNat nv)), .val (.int (Int32.ofNat (ov + nv))), .val (.long ((-72057594037927936 : Int64) ||| ((own_H DV ov nv) &&& (72057594037927935 : Int64)))), .second, .unset, .unset, .val (.long (own_H DV ov (min 3 nv))), .second] [(.long (own_H DV ov (min 4 nv)))])) _
      refine XS.lstore X153.here hx rfl (hb hby at_348) rfl (l' := #[.val (.long av), .second, .val (.long cv), .second, .val (.int fv), .val (.int lv), .val (.ref b76), .val (.int (Int32.ofNat ov)), .val (.int (Int32.ofNat nv)), .val (.int (Int32.ofNat (ov + nv))), .val (.long ((-72057594037927936 : Int64) ||| ((own_H DV ov nv) &&& (72057594037927935 : Int64)))), .second, .unset, .unset, .val (.long (own_H DV ov (min 4 nv))), .second]) rfl ?_
      show Steps p.tables e below (T153.setTop (mkF m 350 #[.val (.long av), .second, .val (.long cv), .second, .val (.int fv), .val (.int lv), .val (.ref b76), .val (.int (Int32.ofNat ov)), .val (.int (Int32.ofNat nv)), .val (.int (Int32.ofNat (ov + nv))), .val (.long ((-72057594037927936 : Int64) ||| ((own_H DV ov nv) &&& (72057594037927935 : Int64)))), .second, .unset, .unset, .val (.long (own_H DV ov (min 4 nv))), .second] [])) _
      refine XS.lload X153.here hx rfl (hb hby at_350) rfl ?_
      show Steps p.tables e below (T153.setTop (mkF m 352 #[.val (.long av), .second, .val (.long cv), .second, .val (.int fv), .val (.int lv), .val (.ref b76), .val (.int (Int32.ofNat ov)), .val (.int (Int32.ofNat nv)), .val (.int (Int32.ofNat (ov + nv))), .val (.long ((-72057594037927936 : Int64) ||| ((own_H DV ov nv) &&& (72057594037927935 : Int64)))), .second, .unset, .unset, .val (.long (own_H DV ov (min 4 nv))), .second] [(.long (own_H DV ov (min 4 nv)))])) _
      refine XS.aload X153.here hx rfl (hb hby at_352) rfl rfl ?_
      show Steps p.tables e below (T153.setTop (mkF m 354 #[.val (.long av), .second, .val (.long cv), .second, .val (.int fv), .val (.int lv), .val (.ref b76), .val (.int (Int32.ofNat ov)), .val (.int (Int32.ofNat nv)), .val (.int (Int32.ofNat (ov + nv))), .val (.long ((-72057594037927936 : Int64) ||| ((own_H DV ov nv) &&& (72057594037927935 : Int64)))), .second, .unset, .unset, .val (.long (own_H DV ov (min 4 nv))), .second] [(.ref b76), (.long (own_H DV ov (min 4 nv)))])) _
      refine XS.iload X153.here hx rfl (hb hby at_354) rfl ?_
      show Steps p.tables e below (T153.setTop (mkF m 356 #[.val (.long av), .second, .val (.long cv), .second, .val (.int fv), .val (.int lv), .val (.ref b76), .val (.int (Int32.ofNat ov)), .val (.int (Int32.ofNat nv)), .val (.int (Int32.ofNat (ov + nv))), .val (.long ((-72057594037927936 : Int64) ||| ((own_H DV ov nv) &&& (72057594037927935 : Int64)))), .second, .unset, .unset, .val (.long (own_H DV ov (min 4 nv))), .second] [(.int (Int32.ofNat ov)), (.ref b76), (.long (own_H DV ov (min 4 nv)))])) _
      refine XS.iload X153.here hx rfl (hb hby at_356) rfl ?_
      show Steps p.tables e below (T153.setTop (mkF m 358 #[.val (.long av), .second, .val (.long cv), .second, .val (.int fv), .val (.int lv), .val (.ref b76), .val (.int (Int32.ofNat ov)), .val (.int (Int32.ofNat nv)), .val (.int (Int32.ofNat (ov + nv))), .val (.long ((-72057594037927936 : Int64) ||| ((own_H DV ov nv) &&& (72057594037927935 : Int64)))), .second, .unset, .unset, .val (.long (own_H DV ov (min 4 nv))), .second] [(.int (Int32.ofNat nv)), (.int (Int32.ofNat ov)), (.ref b76), (.long (own_H DV ov (min 4 nv)))])) _
      refine XS.iconst X153.here hx rfl (hb hby at_358) ?_
      show Steps p.tables e below (T153.setTop (mkF m 359 #[.val (.long av), .second, .val (.long cv), .second, .val (.int fv), .val (.int lv), .val (.ref b76), .val (.int (Int32.ofNat ov)), .val (.int (Int32.ofNat nv)), .val (.int (Int32.ofNat (ov + nv))), .val (.long ((-72057594037927936 : Int64) ||| ((own_H DV ov nv) &&& (72057594037927935 : Int64)))), .second, .unset, .unset, .val (.long (own_H DV ov (min 4 nv))), .second] [(.int (4 : Int32)), (.int (Int32.ofNat nv)), (.int (Int32.ofNat ov)), (.ref b76), (.long (own_H DV ov (min 4 nv)))])) _
      exact kt
    obtain ⟨v156, _, ⟨T156, L156, k156, n156⟩, -, X156, ⟨Lc156, hQ156, l156, y156, z156⟩, st156⟩ := Jvm.LawKit.callS X153 hx (y := (⟨"com/example/attestry/attestry/ParticipantNamesKeyPinLaw", "step", "(J[BIII)J"⟩ : MethodName)) hown (mvT hZ (hw _ (List.mem_of_getElem? (i := 13) rfl))) (mvT hZ (hw _ (List.mem_of_getElem? (i := 14) rfl))) (mvT hZ (hw _ (List.mem_of_getElem? (i := 8) rfl))) (mvT hZ (hw _ (List.mem_of_getElem? (i := 15) rfl))) (by decide) (backOf (W := 0) (rm3 l Z aZ hw [] (own_H DV ov (min 4 nv)) b76 ov nv 4 k76 vs DV T138.heap n0 Zs138 F138_0 hDV hon (by omega)) hZ (hw _ (List.mem_of_getElem? (i := 15) rfl)) (hw _ (List.mem_of_getElem? (i := 8) rfl)) (by decide) (by decide)) (g := (mkF m 359 #[.val (.long av), .second, .val (.long cv), .second, .val (.int fv), .val (.int lv), .val (.ref b76), .val (.int (Int32.ofNat ov)), .val (.int (Int32.ofNat nv)), .val (.int (Int32.ofNat (ov + nv))), .val (.long ((-72057594037927936 : Int64) ||| ((own_H DV ov nv) &&& (72057594037927935 : Int64)))), .second, .unset, .unset, .val (.long (own_H DV ov (min 4 nv))), .second] [(.int (4 : Int32)), (.int (Int32.ofNat nv)), (.int (Int32.ofNat ov)), (.ref b76), (.long (own_H DV ov (min 4 nv)))])) rfl (by rw [hml]; rfl) (argsL := [(.long (own_H DV ov (min 4 nv))), (.ref b76), (.int (Int32.ofNat ov)), (.int (Int32.ofNat nv)), (.int (4 : Int32))]) (rest := []) (lenOf pd_2 rfl) rfl (by show 2 * 0 + _ ≤ _; exact Nat.le_of_eq rfl) (hb hby at_359) (fun _ _ => ⟨rfl, e153, (by decide : 1 + 0 ≤ _), (by decide : 16 + 0 ≤ _)⟩)
    dsimp only [Pt.U, Pt.locs, Pt.cells, Pt.slots] at X156 l156 y156 z156 st156 hQ156
    rw [l156, y156, z156] at X156
    clear l156 y156 z156
    obtain ⟨vq156, N156q, e156⟩ := hQ156
    rw [vq156] at st156
    have N156 := Fr.app N153 N156q
    have pre156 : ∀ t, Steps p.tables e below (T156.setTop (mkF m 362 #[.val (.long av), .second, .val (.long cv), .second, .val (.int fv), .val (.int lv), .val (.ref b76), .val (.int (Int32.ofNat ov)), .val (.int (Int32.ofNat nv)), .val (.int (Int32.ofNat (ov + nv))), .val (.long ((-72057594037927936 : Int64) ||| ((own_H DV ov nv) &&& (72057594037927935 : Int64)))), .second, .unset, .unset, .val (.long (own_H DV ov (min 4 nv))), .second] [(.long (f3 (own_H DV ov (min 4 nv)) ov nv 4 DV))])) t → Steps p.tables e below (s₁.setTop (entryFrame m #[(.long av), (.long cv), (.int fv), (.int lv)] maxLocals)) t := fun t kt => pre155 _ (st156 t kt)
    have pre157 : ∀ t, Steps p.tables e below (T156.setTop (mkF m 362 #[.val (.long av), .second, .val (.long cv), .second, .val (.int fv), .val (.int lv), .val (.ref b76), .val (.int (Int32.ofNat ov)), .val (.int (Int32.ofNat nv)), .val (.int (Int32.ofNat (ov + nv))), .val (.long ((-72057594037927936 : Int64) ||| ((own_H DV ov nv) &&& (72057594037927935 : Int64)))), .second, .unset, .unset, .val (.long (own_H DV ov (min 4 nv))), .second] [(.long (own_H DV ov (min 5 nv)))])) t → Steps p.tables e below (s₁.setTop (entryFrame m #[(.long av), (.long cv), (.int fv), (.int lv)] maxLocals)) t := by
      have q := pre156
      rw [own_step DV ov nv 4 (by omega) (by omega)] at q
      exact q
    have pre158 : ∀ t, Steps p.tables e below (T156.setTop (mkF m 373 #[.val (.long av), .second, .val (.long cv), .second, .val (.int fv), .val (.int lv), .val (.ref b76), .val (.int (Int32.ofNat ov)), .val (.int (Int32.ofNat nv)), .val (.int (Int32.ofNat (ov + nv))), .val (.long ((-72057594037927936 : Int64) ||| ((own_H DV ov nv) &&& (72057594037927935 : Int64)))), .second, .unset, .unset, .val (.long (own_H DV ov (min 5 nv))), .second] [(.int (5 : Int32)), (.int (Int32.ofNat nv)), (.int (Int32.ofNat ov)), (.ref b76), (.long (own_H DV ov (min 5 nv)))])) t → Steps p.tables e below (s₁.setTop (entryFrame m #[(.long av), (.long cv), (.int fv), (.int lv)] maxLocals)) t := fun t kt => by
      refine pre157 _ ?_
      show Steps p.tables e below (T156.setTop (mkF m 362 #[.val (.long av), .second, .val (.long cv), .second, .val (.int fv), .val (.int lv), .val (.ref b76), .val (.int (Int32.ofNat ov)), .val (.int (Int32.ofNat nv)), .val (.int (Int32.ofNat (ov + nv))), .val (.long ((-72057594037927936 : Int64) ||| ((own_H DV ov nv) &&& (72057594037927935 : Int64)))), .second, .unset, .unset, .val (.long (own_H DV ov (min 4 nv))), .second] [(.long (own_H DV ov (min 5 nv)))])) _
      refine XS.lstore X156.here hx rfl (hb hby at_362) rfl (l' := #[.val (.long av), .second, .val (.long cv), .second, .val (.int fv), .val (.int lv), .val (.ref b76), .val (.int (Int32.ofNat ov)), .val (.int (Int32.ofNat nv)), .val (.int (Int32.ofNat (ov + nv))), .val (.long ((-72057594037927936 : Int64) ||| ((own_H DV ov nv) &&& (72057594037927935 : Int64)))), .second, .unset, .unset, .val (.long (own_H DV ov (min 5 nv))), .second]) rfl ?_
      show Steps p.tables e below (T156.setTop (mkF m 364 #[.val (.long av), .second, .val (.long cv), .second, .val (.int fv), .val (.int lv), .val (.ref b76), .val (.int (Int32.ofNat ov)), .val (.int (Int32.ofNat nv)), .val (.int (Int32.ofNat (ov + nv))), .val (.long ((-72057594037927936 : Int64) ||| ((own_H DV ov nv) &&& (72057594037927935 : Int64)))), .second, .unset, .unset, .val (.long (own_H DV ov (min 5 nv))), .second] [])) _
      refine XS.lload X156.here hx rfl (hb hby at_364) rfl ?_
      show Steps p.tables e below (T156.setTop (mkF m 366 #[.val (.long av), .second, .val (.long cv), .second, .val (.int fv), .val (.int lv), .val (.ref b76), .val (.int (Int32.ofNat ov)), .val (.int (Int32.ofNat nv)), .val (.int (Int32.ofNat (ov + nv))), .val (.long ((-72057594037927936 : Int64) ||| ((own_H DV ov nv) &&& (72057594037927935 : Int64)))), .second, .unset, .unset, .val (.long (own_H DV ov (min 5 nv))), .second] [(.long (own_H DV ov (min 5 nv)))])) _
      refine XS.aload X156.here hx rfl (hb hby at_366) rfl rfl ?_
      show Steps p.tables e below (T156.setTop (mkF m 368 #[.val (.long av), .second, .val (.long cv), .second, .val (.int fv), .val (.int lv), .val (.ref b76), .val (.int (Int32.ofNat ov)), .val (.int (Int32.ofNat nv)), .val (.int (Int32.ofNat (ov + nv))), .val (.long ((-72057594037927936 : Int64) ||| ((own_H DV ov nv) &&& (72057594037927935 : Int64)))), .second, .unset, .unset, .val (.long (own_H DV ov (min 5 nv))), .second] [(.ref b76), (.long (own_H DV ov (min 5 nv)))])) _
      refine XS.iload X156.here hx rfl (hb hby at_368) rfl ?_
      show Steps p.tables e below (T156.setTop (mkF m 370 #[.val (.long av), .second, .val (.long cv), .second, .val (.int fv), .val (.int lv), .val (.ref b76), .val (.int (Int32.ofNat ov)), .val (.int (Int32.ofNat nv)), .val (.int (Int32.ofNat (ov + nv))), .val (.long ((-72057594037927936 : Int64) ||| ((own_H DV ov nv) &&& (72057594037927935 : Int64)))), .second, .unset, .unset, .val (.long (own_H DV ov (min 5 nv))), .second] [(.int (Int32.ofNat ov)), (.ref b76), (.long (own_H DV ov (min 5 nv)))])) _
      refine XS.iload X156.here hx rfl (hb hby at_370) rfl ?_
      show Steps p.tables e below (T156.setTop (mkF m 372 #[.val (.long av), .second, .val (.long cv), .second, .val (.int fv), .val (.int lv), .val (.ref b76), .val (.int (Int32.ofNat ov)), .val (.int (Int32.ofNat nv)), .val (.int (Int32.ofNat (ov + nv))), .val (.long ((-72057594037927936 : Int64) ||| ((own_H DV ov nv) &&& (72057594037927935 : Int64)))), .second, .unset, .unset, .val (.long (own_H DV ov (min 5 nv))), .second] [(.int (Int32.ofNat nv)), (.int (Int32.ofNat ov)), (.ref b76), (.long (own_H DV ov (min 5 nv)))])) _
      refine XS.iconst X156.here hx rfl (hb hby at_372) ?_
      show Steps p.tables e below (T156.setTop (mkF m 373 #[.val (.long av), .second, .val (.long cv), .second, .val (.int fv), .val (.int lv), .val (.ref b76), .val (.int (Int32.ofNat ov)), .val (.int (Int32.ofNat nv)), .val (.int (Int32.ofNat (ov + nv))), .val (.long ((-72057594037927936 : Int64) ||| ((own_H DV ov nv) &&& (72057594037927935 : Int64)))), .second, .unset, .unset, .val (.long (own_H DV ov (min 5 nv))), .second] [(.int (5 : Int32)), (.int (Int32.ofNat nv)), (.int (Int32.ofNat ov)), (.ref b76), (.long (own_H DV ov (min 5 nv)))])) _
      exact kt
    obtain ⟨v159, _, ⟨T159, L159, k159, n159⟩, -, X159, ⟨Lc159, hQ159, l159, y159, z159⟩, st159⟩ := Jvm.LawKit.callS X156 hx (y := (⟨"com/example/attestry/attestry/ParticipantNamesKeyPinLaw", "step", "(J[BIII)J"⟩ : MethodName)) hown (mvT hZ (hw _ (List.mem_of_getElem? (i := 13) rfl))) (mvT hZ (hw _ (List.mem_of_getElem? (i := 14) rfl))) (mvT hZ (hw _ (List.mem_of_getElem? (i := 8) rfl))) (mvT hZ (hw _ (List.mem_of_getElem? (i := 15) rfl))) (by decide) (backOf (W := 0) (rm3 l Z aZ hw [] (own_H DV ov (min 5 nv)) b76 ov nv 5 k76 vs DV T138.heap n0 Zs138 F138_0 hDV hon (by omega)) hZ (hw _ (List.mem_of_getElem? (i := 15) rfl)) (hw _ (List.mem_of_getElem? (i := 8) rfl)) (by decide) (by decide)) (g := (mkF m 373 #[.val (.long av), .second, .val (.long cv), .second, .val (.int fv), .val (.int lv), .val (.ref b76), .val (.int (Int32.ofNat ov)), .val (.int (Int32.ofNat nv)), .val (.int (Int32.ofNat (ov + nv))), .val (.long ((-72057594037927936 : Int64) ||| ((own_H DV ov nv) &&& (72057594037927935 : Int64)))), .second, .unset, .unset, .val (.long (own_H DV ov (min 5 nv))), .second] [(.int (5 : Int32)), (.int (Int32.ofNat nv)), (.int (Int32.ofNat ov)), (.ref b76), (.long (own_H DV ov (min 5 nv)))])) rfl (by rw [hml]; rfl) (argsL := [(.long (own_H DV ov (min 5 nv))), (.ref b76), (.int (Int32.ofNat ov)), (.int (Int32.ofNat nv)), (.int (5 : Int32))]) (rest := []) (lenOf pd_2 rfl) rfl (by show 2 * 0 + _ ≤ _; exact Nat.le_of_eq rfl) (hb hby at_373) (fun _ _ => ⟨rfl, e156, (by decide : 1 + 0 ≤ _), (by decide : 16 + 0 ≤ _)⟩)
    dsimp only [Pt.U, Pt.locs, Pt.cells, Pt.slots] at X159 l159 y159 z159 st159 hQ159
    rw [l159, y159, z159] at X159
    clear l159 y159 z159
    obtain ⟨vq159, N159q, e159⟩ := hQ159
    rw [vq159] at st159
    have N159 := Fr.app N156 N159q
    have pre159 : ∀ t, Steps p.tables e below (T159.setTop (mkF m 376 #[.val (.long av), .second, .val (.long cv), .second, .val (.int fv), .val (.int lv), .val (.ref b76), .val (.int (Int32.ofNat ov)), .val (.int (Int32.ofNat nv)), .val (.int (Int32.ofNat (ov + nv))), .val (.long ((-72057594037927936 : Int64) ||| ((own_H DV ov nv) &&& (72057594037927935 : Int64)))), .second, .unset, .unset, .val (.long (own_H DV ov (min 5 nv))), .second] [(.long (f3 (own_H DV ov (min 5 nv)) ov nv 5 DV))])) t → Steps p.tables e below (s₁.setTop (entryFrame m #[(.long av), (.long cv), (.int fv), (.int lv)] maxLocals)) t := fun t kt => pre158 _ (st159 t kt)
    have pre160 : ∀ t, Steps p.tables e below (T159.setTop (mkF m 376 #[.val (.long av), .second, .val (.long cv), .second, .val (.int fv), .val (.int lv), .val (.ref b76), .val (.int (Int32.ofNat ov)), .val (.int (Int32.ofNat nv)), .val (.int (Int32.ofNat (ov + nv))), .val (.long ((-72057594037927936 : Int64) ||| ((own_H DV ov nv) &&& (72057594037927935 : Int64)))), .second, .unset, .unset, .val (.long (own_H DV ov (min 5 nv))), .second] [(.long (own_H DV ov (min 6 nv)))])) t → Steps p.tables e below (s₁.setTop (entryFrame m #[(.long av), (.long cv), (.int fv), (.int lv)] maxLocals)) t := by
      have q := pre159
      rw [own_step DV ov nv 5 (by omega) (by omega)] at q
      exact q
    have pre161 : ∀ t, Steps p.tables e below (T159.setTop (mkF m 388 #[.val (.long av), .second, .val (.long cv), .second, .val (.int fv), .val (.int lv), .val (.ref b76), .val (.int (Int32.ofNat ov)), .val (.int (Int32.ofNat nv)), .val (.int (Int32.ofNat (ov + nv))), .val (.long ((-72057594037927936 : Int64) ||| ((own_H DV ov nv) &&& (72057594037927935 : Int64)))), .second, .unset, .unset, .val (.long (own_H DV ov (min 6 nv))), .second] [(.int (6 : Int32)), (.int (Int32.ofNat nv)), (.int (Int32.ofNat ov)), (.ref b76), (.long (own_H DV ov (min 6 nv)))])) t → Steps p.tables e below (s₁.setTop (entryFrame m #[(.long av), (.long cv), (.int fv), (.int lv)] maxLocals)) t := fun t kt => by
      refine pre160 _ ?_
      show Steps p.tables e below (T159.setTop (mkF m 376 #[.val (.long av), .second, .val (.long cv), .second, .val (.int fv), .val (.int lv), .val (.ref b76), .val (.int (Int32.ofNat ov)), .val (.int (Int32.ofNat nv)), .val (.int (Int32.ofNat (ov + nv))), .val (.long ((-72057594037927936 : Int64) ||| ((own_H DV ov nv) &&& (72057594037927935 : Int64)))), .second, .unset, .unset, .val (.long (own_H DV ov (min 5 nv))), .second] [(.long (own_H DV ov (min 6 nv)))])) _
      refine XS.lstore X159.here hx rfl (hb hby at_376) rfl (l' := #[.val (.long av), .second, .val (.long cv), .second, .val (.int fv), .val (.int lv), .val (.ref b76), .val (.int (Int32.ofNat ov)), .val (.int (Int32.ofNat nv)), .val (.int (Int32.ofNat (ov + nv))), .val (.long ((-72057594037927936 : Int64) ||| ((own_H DV ov nv) &&& (72057594037927935 : Int64)))), .second, .unset, .unset, .val (.long (own_H DV ov (min 6 nv))), .second]) rfl ?_
      show Steps p.tables e below (T159.setTop (mkF m 378 #[.val (.long av), .second, .val (.long cv), .second, .val (.int fv), .val (.int lv), .val (.ref b76), .val (.int (Int32.ofNat ov)), .val (.int (Int32.ofNat nv)), .val (.int (Int32.ofNat (ov + nv))), .val (.long ((-72057594037927936 : Int64) ||| ((own_H DV ov nv) &&& (72057594037927935 : Int64)))), .second, .unset, .unset, .val (.long (own_H DV ov (min 6 nv))), .second] [])) _
      refine XS.lload X159.here hx rfl (hb hby at_378) rfl ?_
      show Steps p.tables e below (T159.setTop (mkF m 380 #[.val (.long av), .second, .val (.long cv), .second, .val (.int fv), .val (.int lv), .val (.ref b76), .val (.int (Int32.ofNat ov)), .val (.int (Int32.ofNat nv)), .val (.int (Int32.ofNat (ov + nv))), .val (.long ((-72057594037927936 : Int64) ||| ((own_H DV ov nv) &&& (72057594037927935 : Int64)))), .second, .unset, .unset, .val (.long (own_H DV ov (min 6 nv))), .second] [(.long (own_H DV ov (min 6 nv)))])) _
      refine XS.aload X159.here hx rfl (hb hby at_380) rfl rfl ?_
      show Steps p.tables e below (T159.setTop (mkF m 382 #[.val (.long av), .second, .val (.long cv), .second, .val (.int fv), .val (.int lv), .val (.ref b76), .val (.int (Int32.ofNat ov)), .val (.int (Int32.ofNat nv)), .val (.int (Int32.ofNat (ov + nv))), .val (.long ((-72057594037927936 : Int64) ||| ((own_H DV ov nv) &&& (72057594037927935 : Int64)))), .second, .unset, .unset, .val (.long (own_H DV ov (min 6 nv))), .second] [(.ref b76), (.long (own_H DV ov (min 6 nv)))])) _
      refine XS.iload X159.here hx rfl (hb hby at_382) rfl ?_
      show Steps p.tables e below (T159.setTop (mkF m 384 #[.val (.long av), .second, .val (.long cv), .second, .val (.int fv), .val (.int lv), .val (.ref b76), .val (.int (Int32.ofNat ov)), .val (.int (Int32.ofNat nv)), .val (.int (Int32.ofNat (ov + nv))), .val (.long ((-72057594037927936 : Int64) ||| ((own_H DV ov nv) &&& (72057594037927935 : Int64)))), .second, .unset, .unset, .val (.long (own_H DV ov (min 6 nv))), .second] [(.int (Int32.ofNat ov)), (.ref b76), (.long (own_H DV ov (min 6 nv)))])) _
      refine XS.iload X159.here hx rfl (hb hby at_384) rfl ?_
      show Steps p.tables e below (T159.setTop (mkF m 386 #[.val (.long av), .second, .val (.long cv), .second, .val (.int fv), .val (.int lv), .val (.ref b76), .val (.int (Int32.ofNat ov)), .val (.int (Int32.ofNat nv)), .val (.int (Int32.ofNat (ov + nv))), .val (.long ((-72057594037927936 : Int64) ||| ((own_H DV ov nv) &&& (72057594037927935 : Int64)))), .second, .unset, .unset, .val (.long (own_H DV ov (min 6 nv))), .second] [(.int (Int32.ofNat nv)), (.int (Int32.ofNat ov)), (.ref b76), (.long (own_H DV ov (min 6 nv)))])) _
      refine XS.bipush X159.here hx rfl (hb hby at_386) ?_
      show Steps p.tables e below (T159.setTop (mkF m 388 #[.val (.long av), .second, .val (.long cv), .second, .val (.int fv), .val (.int lv), .val (.ref b76), .val (.int (Int32.ofNat ov)), .val (.int (Int32.ofNat nv)), .val (.int (Int32.ofNat (ov + nv))), .val (.long ((-72057594037927936 : Int64) ||| ((own_H DV ov nv) &&& (72057594037927935 : Int64)))), .second, .unset, .unset, .val (.long (own_H DV ov (min 6 nv))), .second] [(.int (6 : Int32)), (.int (Int32.ofNat nv)), (.int (Int32.ofNat ov)), (.ref b76), (.long (own_H DV ov (min 6 nv)))])) _
      exact kt
    obtain ⟨v162, _, ⟨T162, L162, k162, n162⟩, -, X162, ⟨Lc162, hQ162, l162, y162, z162⟩, st162⟩ := Jvm.LawKit.callS X159 hx (y := (⟨"com/example/attestry/attestry/ParticipantNamesKeyPinLaw", "step", "(J[BIII)J"⟩ : MethodName)) hown (mvT hZ (hw _ (List.mem_of_getElem? (i := 13) rfl))) (mvT hZ (hw _ (List.mem_of_getElem? (i := 14) rfl))) (mvT hZ (hw _ (List.mem_of_getElem? (i := 8) rfl))) (mvT hZ (hw _ (List.mem_of_getElem? (i := 15) rfl))) (by decide) (backOf (W := 0) (rm3 l Z aZ hw [] (own_H DV ov (min 6 nv)) b76 ov nv 6 k76 vs DV T138.heap n0 Zs138 F138_0 hDV hon (by omega)) hZ (hw _ (List.mem_of_getElem? (i := 15) rfl)) (hw _ (List.mem_of_getElem? (i := 8) rfl)) (by decide) (by decide)) (g := (mkF m 388 #[.val (.long av), .second, .val (.long cv), .second, .val (.int fv), .val (.int lv), .val (.ref b76), .val (.int (Int32.ofNat ov)), .val (.int (Int32.ofNat nv)), .val (.int (Int32.ofNat (ov + nv))), .val (.long ((-72057594037927936 : Int64) ||| ((own_H DV ov nv) &&& (72057594037927935 : Int64)))), .second, .unset, .unset, .val (.long (own_H DV ov (min 6 nv))), .second] [(.int (6 : Int32)), (.int (Int32.ofNat nv)), (.int (Int32.ofNat ov)), (.ref b76), (.long (own_H DV ov (min 6 nv)))])) rfl (by rw [hml]; rfl) (argsL := [(.long (own_H DV ov (min 6 nv))), (.ref b76), (.int (Int32.ofNat ov)), (.int (Int32.ofNat nv)), (.int (6 : Int32))]) (rest := []) (lenOf pd_2 rfl) rfl (by show 2 * 0 + _ ≤ _; exact Nat.le_of_eq rfl) (hb hby at_388) (fun _ _ => ⟨rfl, e159, (by decide : 1 + 0 ≤ _), (by decide : 16 + 0 ≤ _)⟩)
    dsimp only [Pt.U, Pt.locs, Pt.cells, Pt.slots] at X162 l162 y162 z162 st162 hQ162
    rw [l162, y162, z162] at X162
    clear l162 y162 z162
    obtain ⟨vq162, N162q, e162⟩ := hQ162
    rw [vq162] at st162
    have N162 := Fr.app N159 N162q
    have pre162 : ∀ t, Steps p.tables e below (T162.setTop (mkF m 391 #[.val (.long av), .second, .val (.long cv), .second, .val (.int fv), .val (.int lv), .val (.ref b76), .val (.int (Int32.ofNat ov)), .val (.int (Int32.ofNat nv)), .val (.int (Int32.ofNat (ov + nv))), .val (.long ((-72057594037927936 : Int64) ||| ((own_H DV ov nv) &&& (72057594037927935 : Int64)))), .second, .unset, .unset, .val (.long (own_H DV ov (min 6 nv))), .second] [(.long (f3 (own_H DV ov (min 6 nv)) ov nv 6 DV))])) t → Steps p.tables e below (s₁.setTop (entryFrame m #[(.long av), (.long cv), (.int fv), (.int lv)] maxLocals)) t := fun t kt => pre161 _ (st162 t kt)
    have pre163 : ∀ t, Steps p.tables e below (T162.setTop (mkF m 391 #[.val (.long av), .second, .val (.long cv), .second, .val (.int fv), .val (.int lv), .val (.ref b76), .val (.int (Int32.ofNat ov)), .val (.int (Int32.ofNat nv)), .val (.int (Int32.ofNat (ov + nv))), .val (.long ((-72057594037927936 : Int64) ||| ((own_H DV ov nv) &&& (72057594037927935 : Int64)))), .second, .unset, .unset, .val (.long (own_H DV ov (min 6 nv))), .second] [(.long (own_H DV ov (min 7 nv)))])) t → Steps p.tables e below (s₁.setTop (entryFrame m #[(.long av), (.long cv), (.int fv), (.int lv)] maxLocals)) t := by
      have q := pre162
      rw [own_step DV ov nv 6 (by omega) (by omega)] at q
      exact q
    have pre164 : ∀ t, Steps p.tables e below (T162.setTop (mkF m 403 #[.val (.long av), .second, .val (.long cv), .second, .val (.int fv), .val (.int lv), .val (.ref b76), .val (.int (Int32.ofNat ov)), .val (.int (Int32.ofNat nv)), .val (.int (Int32.ofNat (ov + nv))), .val (.long ((-72057594037927936 : Int64) ||| ((own_H DV ov nv) &&& (72057594037927935 : Int64)))), .second, .unset, .unset, .val (.long (own_H DV ov (min 7 nv))), .second] [(.int (7 : Int32)), (.int (Int32.ofNat nv)), (.int (Int32.ofNat ov)), (.ref b76), (.long (own_H DV ov (min 7 nv)))])) t → Steps p.tables e below (s₁.setTop (entryFrame m #[(.long av), (.long cv), (.int fv), (.int lv)] maxLocals)) t := fun t kt => by
      refine pre163 _ ?_
      show Steps p.tables e below (T162.setTop (mkF m 391 #[.val (.long av), .second, .val (.long cv), .second, .val (.int fv), .val (.int lv), .val (.ref b76), .val (.int (Int32.ofNat ov)), .val (.int (Int32.ofNat nv)), .val (.int (Int32.ofNat (ov + nv))), .val (.long ((-72057594037927936 : Int64) ||| ((own_H DV ov nv) &&& (72057594037927935 : Int64)))), .second, .unset, .unset, .val (.long (own_H DV ov (min 6 nv))), .second] [(.long (own_H DV ov (min 7 nv)))])) _
      refine XS.lstore X162.here hx rfl (hb hby at_391) rfl (l' := #[.val (.long av), .second, .val (.long cv), .second, .val (.int fv), .val (.int lv), .val (.ref b76), .val (.int (Int32.ofNat ov)), .val (.int (Int32.ofNat nv)), .val (.int (Int32.ofNat (ov + nv))), .val (.long ((-72057594037927936 : Int64) ||| ((own_H DV ov nv) &&& (72057594037927935 : Int64)))), .second, .unset, .unset, .val (.long (own_H DV ov (min 7 nv))), .second]) rfl ?_
      show Steps p.tables e below (T162.setTop (mkF m 393 #[.val (.long av), .second, .val (.long cv), .second, .val (.int fv), .val (.int lv), .val (.ref b76), .val (.int (Int32.ofNat ov)), .val (.int (Int32.ofNat nv)), .val (.int (Int32.ofNat (ov + nv))), .val (.long ((-72057594037927936 : Int64) ||| ((own_H DV ov nv) &&& (72057594037927935 : Int64)))), .second, .unset, .unset, .val (.long (own_H DV ov (min 7 nv))), .second] [])) _
      refine XS.lload X162.here hx rfl (hb hby at_393) rfl ?_
      show Steps p.tables e below (T162.setTop (mkF m 395 #[.val (.long av), .second, .val (.long cv), .second, .val (.int fv), .val (.int lv), .val (.ref b76), .val (.int (Int32.ofNat ov)), .val (.int (Int32.ofNat nv)), .val (.int (Int32.ofNat (ov + nv))), .val (.long ((-72057594037927936 : Int64) ||| ((own_H DV ov nv) &&& (72057594037927935 : Int64)))), .second, .unset, .unset, .val (.long (own_H DV ov (min 7 nv))), .second] [(.long (own_H DV ov (min 7 nv)))])) _
      refine XS.aload X162.here hx rfl (hb hby at_395) rfl rfl ?_
      show Steps p.tables e below (T162.setTop (mkF m 397 #[.val (.long av), .second, .val (.long cv), .second, .val (.int fv), .val (.int lv), .val (.ref b76), .val (.int (Int32.ofNat ov)), .val (.int (Int32.ofNat nv)), .val (.int (Int32.ofNat (ov + nv))), .val (.long ((-72057594037927936 : Int64) ||| ((own_H DV ov nv) &&& (72057594037927935 : Int64)))), .second, .unset, .unset, .val (.long (own_H DV ov (min 7 nv))), .second] [(.ref b76), (.long (own_H DV ov (min 7 nv)))])) _
      refine XS.iload X162.here hx rfl (hb hby at_397) rfl ?_
      show Steps p.tables e below (T162.setTop (mkF m 399 #[.val (.long av), .second, .val (.long cv), .second, .val (.int fv), .val (.int lv), .val (.ref b76), .val (.int (Int32.ofNat ov)), .val (.int (Int32.ofNat nv)), .val (.int (Int32.ofNat (ov + nv))), .val (.long ((-72057594037927936 : Int64) ||| ((own_H DV ov nv) &&& (72057594037927935 : Int64)))), .second, .unset, .unset, .val (.long (own_H DV ov (min 7 nv))), .second] [(.int (Int32.ofNat ov)), (.ref b76), (.long (own_H DV ov (min 7 nv)))])) _
      refine XS.iload X162.here hx rfl (hb hby at_399) rfl ?_
      show Steps p.tables e below (T162.setTop (mkF m 401 #[.val (.long av), .second, .val (.long cv), .second, .val (.int fv), .val (.int lv), .val (.ref b76), .val (.int (Int32.ofNat ov)), .val (.int (Int32.ofNat nv)), .val (.int (Int32.ofNat (ov + nv))), .val (.long ((-72057594037927936 : Int64) ||| ((own_H DV ov nv) &&& (72057594037927935 : Int64)))), .second, .unset, .unset, .val (.long (own_H DV ov (min 7 nv))), .second] [(.int (Int32.ofNat nv)), (.int (Int32.ofNat ov)), (.ref b76), (.long (own_H DV ov (min 7 nv)))])) _
      refine XS.bipush X162.here hx rfl (hb hby at_401) ?_
      show Steps p.tables e below (T162.setTop (mkF m 403 #[.val (.long av), .second, .val (.long cv), .second, .val (.int fv), .val (.int lv), .val (.ref b76), .val (.int (Int32.ofNat ov)), .val (.int (Int32.ofNat nv)), .val (.int (Int32.ofNat (ov + nv))), .val (.long ((-72057594037927936 : Int64) ||| ((own_H DV ov nv) &&& (72057594037927935 : Int64)))), .second, .unset, .unset, .val (.long (own_H DV ov (min 7 nv))), .second] [(.int (7 : Int32)), (.int (Int32.ofNat nv)), (.int (Int32.ofNat ov)), (.ref b76), (.long (own_H DV ov (min 7 nv)))])) _
      exact kt
    obtain ⟨v165, _, ⟨T165, L165, k165, n165⟩, -, X165, ⟨Lc165, hQ165, l165, y165, z165⟩, st165⟩ := Jvm.LawKit.callS X162 hx (y := (⟨"com/example/attestry/attestry/ParticipantNamesKeyPinLaw", "step", "(J[BIII)J"⟩ : MethodName)) hown (mvT hZ (hw _ (List.mem_of_getElem? (i := 13) rfl))) (mvT hZ (hw _ (List.mem_of_getElem? (i := 14) rfl))) (mvT hZ (hw _ (List.mem_of_getElem? (i := 8) rfl))) (mvT hZ (hw _ (List.mem_of_getElem? (i := 15) rfl))) (by decide) (backOf (W := 0) (rm3 l Z aZ hw [] (own_H DV ov (min 7 nv)) b76 ov nv 7 k76 vs DV T138.heap n0 Zs138 F138_0 hDV hon (by omega)) hZ (hw _ (List.mem_of_getElem? (i := 15) rfl)) (hw _ (List.mem_of_getElem? (i := 8) rfl)) (by decide) (by decide)) (g := (mkF m 403 #[.val (.long av), .second, .val (.long cv), .second, .val (.int fv), .val (.int lv), .val (.ref b76), .val (.int (Int32.ofNat ov)), .val (.int (Int32.ofNat nv)), .val (.int (Int32.ofNat (ov + nv))), .val (.long ((-72057594037927936 : Int64) ||| ((own_H DV ov nv) &&& (72057594037927935 : Int64)))), .second, .unset, .unset, .val (.long (own_H DV ov (min 7 nv))), .second] [(.int (7 : Int32)), (.int (Int32.ofNat nv)), (.int (Int32.ofNat ov)), (.ref b76), (.long (own_H DV ov (min 7 nv)))])) rfl (by rw [hml]; rfl) (argsL := [(.long (own_H DV ov (min 7 nv))), (.ref b76), (.int (Int32.ofNat ov)), (.int (Int32.ofNat nv)), (.int (7 : Int32))]) (rest := []) (lenOf pd_2 rfl) rfl (by show 2 * 0 + _ ≤ _; exact Nat.le_of_eq rfl) (hb hby at_403) (fun _ _ => ⟨rfl, e162, (by decide : 1 + 0 ≤ _), (by decide : 16 + 0 ≤ _)⟩)
    dsimp only [Pt.U, Pt.locs, Pt.cells, Pt.slots] at X165 l165 y165 z165 st165 hQ165
    rw [l165, y165, z165] at X165
    clear l165 y165 z165
    obtain ⟨vq165, N165q, e165⟩ := hQ165
    rw [vq165] at st165
    have N165 := Fr.app N162 N165q
    have pre165 : ∀ t, Steps p.tables e below (T165.setTop (mkF m 406 #[.val (.long av), .second, .val (.long cv), .second, .val (.int fv), .val (.int lv), .val (.ref b76), .val (.int (Int32.ofNat ov)), .val (.int (Int32.ofNat nv)), .val (.int (Int32.ofNat (ov + nv))), .val (.long ((-72057594037927936 : Int64) ||| ((own_H DV ov nv) &&& (72057594037927935 : Int64)))), .second, .unset, .unset, .val (.long (own_H DV ov (min 7 nv))), .second] [(.long (f3 (own_H DV ov (min 7 nv)) ov nv 7 DV))])) t → Steps p.tables e below (s₁.setTop (entryFrame m #[(.long av), (.long cv), (.int fv), (.int lv)] maxLocals)) t := fun t kt => pre164 _ (st165 t kt)
    have pre166 : ∀ t, Steps p.tables e below (T165.setTop (mkF m 406 #[.val (.long av), .second, .val (.long cv), .second, .val (.int fv), .val (.int lv), .val (.ref b76), .val (.int (Int32.ofNat ov)), .val (.int (Int32.ofNat nv)), .val (.int (Int32.ofNat (ov + nv))), .val (.long ((-72057594037927936 : Int64) ||| ((own_H DV ov nv) &&& (72057594037927935 : Int64)))), .second, .unset, .unset, .val (.long (own_H DV ov (min 7 nv))), .second] [(.long (own_H DV ov (min 8 nv)))])) t → Steps p.tables e below (s₁.setTop (entryFrame m #[(.long av), (.long cv), (.int fv), (.int lv)] maxLocals)) t := by
      have q := pre165
      rw [own_step DV ov nv 7 (by omega) (by omega)] at q
      exact q
    have pre167 : ∀ t, Steps p.tables e below (T165.setTop (mkF m 418 #[.val (.long av), .second, .val (.long cv), .second, .val (.int fv), .val (.int lv), .val (.ref b76), .val (.int (Int32.ofNat ov)), .val (.int (Int32.ofNat nv)), .val (.int (Int32.ofNat (ov + nv))), .val (.long ((-72057594037927936 : Int64) ||| ((own_H DV ov nv) &&& (72057594037927935 : Int64)))), .second, .unset, .unset, .val (.long (own_H DV ov (min 8 nv))), .second] [(.int (8 : Int32)), (.int (Int32.ofNat nv)), (.int (Int32.ofNat ov)), (.ref b76), (.long (own_H DV ov (min 8 nv)))])) t → Steps p.tables e below (s₁.setTop (entryFrame m #[(.long av), (.long cv), (.int fv), (.int lv)] maxLocals)) t := fun t kt => by
      refine pre166 _ ?_
      show Steps p.tables e below (T165.setTop (mkF m 406 #[.val (.long av), .second, .val (.long cv), .second, .val (.int fv), .val (.int lv), .val (.ref b76), .val (.int (Int32.ofNat ov)), .val (.int (Int32.ofNat nv)), .val (.int (Int32.ofNat (ov + nv))), .val (.long ((-72057594037927936 : Int64) ||| ((own_H DV ov nv) &&& (72057594037927935 : Int64)))), .second, .unset, .unset, .val (.long (own_H DV ov (min 7 nv))), .second] [(.long (own_H DV ov (min 8 nv)))])) _
      refine XS.lstore X165.here hx rfl (hb hby at_406) rfl (l' := #[.val (.long av), .second, .val (.long cv), .second, .val (.int fv), .val (.int lv), .val (.ref b76), .val (.int (Int32.ofNat ov)), .val (.int (Int32.ofNat nv)), .val (.int (Int32.ofNat (ov + nv))), .val (.long ((-72057594037927936 : Int64) ||| ((own_H DV ov nv) &&& (72057594037927935 : Int64)))), .second, .unset, .unset, .val (.long (own_H DV ov (min 8 nv))), .second]) rfl ?_
      show Steps p.tables e below (T165.setTop (mkF m 408 #[.val (.long av), .second, .val (.long cv), .second, .val (.int fv), .val (.int lv), .val (.ref b76), .val (.int (Int32.ofNat ov)), .val (.int (Int32.ofNat nv)), .val (.int (Int32.ofNat (ov + nv))), .val (.long ((-72057594037927936 : Int64) ||| ((own_H DV ov nv) &&& (72057594037927935 : Int64)))), .second, .unset, .unset, .val (.long (own_H DV ov (min 8 nv))), .second] [])) _
      refine XS.lload X165.here hx rfl (hb hby at_408) rfl ?_
      show Steps p.tables e below (T165.setTop (mkF m 410 #[.val (.long av), .second, .val (.long cv), .second, .val (.int fv), .val (.int lv), .val (.ref b76), .val (.int (Int32.ofNat ov)), .val (.int (Int32.ofNat nv)), .val (.int (Int32.ofNat (ov + nv))), .val (.long ((-72057594037927936 : Int64) ||| ((own_H DV ov nv) &&& (72057594037927935 : Int64)))), .second, .unset, .unset, .val (.long (own_H DV ov (min 8 nv))), .second] [(.long (own_H DV ov (min 8 nv)))])) _
      refine XS.aload X165.here hx rfl (hb hby at_410) rfl rfl ?_
      show Steps p.tables e below (T165.setTop (mkF m 412 #[.val (.long av), .second, .val (.long cv), .second, .val (.int fv), .val (.int lv), .val (.ref b76), .val (.int (Int32.ofNat ov)), .val (.int (Int32.ofNat nv)), .val (.int (Int32.ofNat (ov + nv))), .val (.long ((-72057594037927936 : Int64) ||| ((own_H DV ov nv) &&& (72057594037927935 : Int64)))), .second, .unset, .unset, .val (.long (own_H DV ov (min 8 nv))), .second] [(.ref b76), (.long (own_H DV ov (min 8 nv)))])) _
      refine XS.iload X165.here hx rfl (hb hby at_412) rfl ?_
      show Steps p.tables e below (T165.setTop (mkF m 414 #[.val (.long av), .second, .val (.long cv), .second, .val (.int fv), .val (.int lv), .val (.ref b76), .val (.int (Int32.ofNat ov)), .val (.int (Int32.ofNat nv)), .val (.int (Int32.ofNat (ov + nv))), .val (.long ((-72057594037927936 : Int64) ||| ((own_H DV ov nv) &&& (72057594037927935 : Int64)))), .second, .unset, .unset, .val (.long (own_H DV ov (min 8 nv))), .second] [(.int (Int32.ofNat ov)), (.ref b76), (.long (own_H DV ov (min 8 nv)))])) _
      refine XS.iload X165.here hx rfl (hb hby at_414) rfl ?_
      show Steps p.tables e below (T165.setTop (mkF m 416 #[.val (.long av), .second, .val (.long cv), .second, .val (.int fv), .val (.int lv), .val (.ref b76), .val (.int (Int32.ofNat ov)), .val (.int (Int32.ofNat nv)), .val (.int (Int32.ofNat (ov + nv))), .val (.long ((-72057594037927936 : Int64) ||| ((own_H DV ov nv) &&& (72057594037927935 : Int64)))), .second, .unset, .unset, .val (.long (own_H DV ov (min 8 nv))), .second] [(.int (Int32.ofNat nv)), (.int (Int32.ofNat ov)), (.ref b76), (.long (own_H DV ov (min 8 nv)))])) _
      refine XS.bipush X165.here hx rfl (hb hby at_416) ?_
      show Steps p.tables e below (T165.setTop (mkF m 418 #[.val (.long av), .second, .val (.long cv), .second, .val (.int fv), .val (.int lv), .val (.ref b76), .val (.int (Int32.ofNat ov)), .val (.int (Int32.ofNat nv)), .val (.int (Int32.ofNat (ov + nv))), .val (.long ((-72057594037927936 : Int64) ||| ((own_H DV ov nv) &&& (72057594037927935 : Int64)))), .second, .unset, .unset, .val (.long (own_H DV ov (min 8 nv))), .second] [(.int (8 : Int32)), (.int (Int32.ofNat nv)), (.int (Int32.ofNat ov)), (.ref b76), (.long (own_H DV ov (min 8 nv)))])) _
      exact kt
    obtain ⟨v168, _, ⟨T168, L168, k168, n168⟩, -, X168, ⟨Lc168, hQ168, l168, y168, z168⟩, st168⟩ := Jvm.LawKit.callS X165 hx (y := (⟨"com/example/attestry/attestry/ParticipantNamesKeyPinLaw", "step", "(J[BIII)J"⟩ : MethodName)) hown (mvT hZ (hw _ (List.mem_of_getElem? (i := 13) rfl))) (mvT hZ (hw _ (List.mem_of_getElem? (i := 14) rfl))) (mvT hZ (hw _ (List.mem_of_getElem? (i := 8) rfl))) (mvT hZ (hw _ (List.mem_of_getElem? (i := 15) rfl))) (by decide) (backOf (W := 0) (rm3 l Z aZ hw [] (own_H DV ov (min 8 nv)) b76 ov nv 8 k76 vs DV T138.heap n0 Zs138 F138_0 hDV hon (by omega)) hZ (hw _ (List.mem_of_getElem? (i := 15) rfl)) (hw _ (List.mem_of_getElem? (i := 8) rfl)) (by decide) (by decide)) (g := (mkF m 418 #[.val (.long av), .second, .val (.long cv), .second, .val (.int fv), .val (.int lv), .val (.ref b76), .val (.int (Int32.ofNat ov)), .val (.int (Int32.ofNat nv)), .val (.int (Int32.ofNat (ov + nv))), .val (.long ((-72057594037927936 : Int64) ||| ((own_H DV ov nv) &&& (72057594037927935 : Int64)))), .second, .unset, .unset, .val (.long (own_H DV ov (min 8 nv))), .second] [(.int (8 : Int32)), (.int (Int32.ofNat nv)), (.int (Int32.ofNat ov)), (.ref b76), (.long (own_H DV ov (min 8 nv)))])) rfl (by rw [hml]; rfl) (argsL := [(.long (own_H DV ov (min 8 nv))), (.ref b76), (.int (Int32.ofNat ov)), (.int (Int32.ofNat nv)), (.int (8 : Int32))]) (rest := []) (lenOf pd_2 rfl) rfl (by show 2 * 0 + _ ≤ _; exact Nat.le_of_eq rfl) (hb hby at_418) (fun _ _ => ⟨rfl, e165, (by decide : 1 + 0 ≤ _), (by decide : 16 + 0 ≤ _)⟩)
    dsimp only [Pt.U, Pt.locs, Pt.cells, Pt.slots] at X168 l168 y168 z168 st168 hQ168
    rw [l168, y168, z168] at X168
    clear l168 y168 z168
    obtain ⟨vq168, N168q, e168⟩ := hQ168
    rw [vq168] at st168
    have N168 := Fr.app N165 N168q
    have pre168 : ∀ t, Steps p.tables e below (T168.setTop (mkF m 421 #[.val (.long av), .second, .val (.long cv), .second, .val (.int fv), .val (.int lv), .val (.ref b76), .val (.int (Int32.ofNat ov)), .val (.int (Int32.ofNat nv)), .val (.int (Int32.ofNat (ov + nv))), .val (.long ((-72057594037927936 : Int64) ||| ((own_H DV ov nv) &&& (72057594037927935 : Int64)))), .second, .unset, .unset, .val (.long (own_H DV ov (min 8 nv))), .second] [(.long (f3 (own_H DV ov (min 8 nv)) ov nv 8 DV))])) t → Steps p.tables e below (s₁.setTop (entryFrame m #[(.long av), (.long cv), (.int fv), (.int lv)] maxLocals)) t := fun t kt => pre167 _ (st168 t kt)
    have pre169 : ∀ t, Steps p.tables e below (T168.setTop (mkF m 421 #[.val (.long av), .second, .val (.long cv), .second, .val (.int fv), .val (.int lv), .val (.ref b76), .val (.int (Int32.ofNat ov)), .val (.int (Int32.ofNat nv)), .val (.int (Int32.ofNat (ov + nv))), .val (.long ((-72057594037927936 : Int64) ||| ((own_H DV ov nv) &&& (72057594037927935 : Int64)))), .second, .unset, .unset, .val (.long (own_H DV ov (min 8 nv))), .second] [(.long (own_H DV ov (min 9 nv)))])) t → Steps p.tables e below (s₁.setTop (entryFrame m #[(.long av), (.long cv), (.int fv), (.int lv)] maxLocals)) t := by
      have q := pre168
      rw [own_step DV ov nv 8 (by omega) (by omega)] at q
      exact q
    have pre170 : ∀ t, Steps p.tables e below (T168.setTop (mkF m 433 #[.val (.long av), .second, .val (.long cv), .second, .val (.int fv), .val (.int lv), .val (.ref b76), .val (.int (Int32.ofNat ov)), .val (.int (Int32.ofNat nv)), .val (.int (Int32.ofNat (ov + nv))), .val (.long ((-72057594037927936 : Int64) ||| ((own_H DV ov nv) &&& (72057594037927935 : Int64)))), .second, .unset, .unset, .val (.long (own_H DV ov (min 9 nv))), .second] [(.int (9 : Int32)), (.int (Int32.ofNat nv)), (.int (Int32.ofNat ov)), (.ref b76), (.long (own_H DV ov (min 9 nv)))])) t → Steps p.tables e below (s₁.setTop (entryFrame m #[(.long av), (.long cv), (.int fv), (.int lv)] maxLocals)) t := fun t kt => by
      refine pre169 _ ?_
      show Steps p.tables e below (T168.setTop (mkF m 421 #[.val (.long av), .second, .val (.long cv), .second, .val (.int fv), .val (.int lv), .val (.ref b76), .val (.int (Int32.ofNat ov)), .val (.int (Int32.ofNat nv)), .val (.int (Int32.ofNat (ov + nv))), .val (.long ((-72057594037927936 : Int64) ||| ((own_H DV ov nv) &&& (72057594037927935 : Int64)))), .second, .unset, .unset, .val (.long (own_H DV ov (min 8 nv))), .second] [(.long (own_H DV ov (min 9 nv)))])) _
      refine XS.lstore X168.here hx rfl (hb hby at_421) rfl (l' := #[.val (.long av), .second, .val (.long cv), .second, .val (.int fv), .val (.int lv), .val (.ref b76), .val (.int (Int32.ofNat ov)), .val (.int (Int32.ofNat nv)), .val (.int (Int32.ofNat (ov + nv))), .val (.long ((-72057594037927936 : Int64) ||| ((own_H DV ov nv) &&& (72057594037927935 : Int64)))), .second, .unset, .unset, .val (.long (own_H DV ov (min 9 nv))), .second]) rfl ?_
      show Steps p.tables e below (T168.setTop (mkF m 423 #[.val (.long av), .second, .val (.long cv), .second, .val (.int fv), .val (.int lv), .val (.ref b76), .val (.int (Int32.ofNat ov)), .val (.int (Int32.ofNat nv)), .val (.int (Int32.ofNat (ov + nv))), .val (.long ((-72057594037927936 : Int64) ||| ((own_H DV ov nv) &&& (72057594037927935 : Int64)))), .second, .unset, .unset, .val (.long (own_H DV ov (min 9 nv))), .second] [])) _
      refine XS.lload X168.here hx rfl (hb hby at_423) rfl ?_
      show Steps p.tables e below (T168.setTop (mkF m 425 #[.val (.long av), .second, .val (.long cv), .second, .val (.int fv), .val (.int lv), .val (.ref b76), .val (.int (Int32.ofNat ov)), .val (.int (Int32.ofNat nv)), .val (.int (Int32.ofNat (ov + nv))), .val (.long ((-72057594037927936 : Int64) ||| ((own_H DV ov nv) &&& (72057594037927935 : Int64)))), .second, .unset, .unset, .val (.long (own_H DV ov (min 9 nv))), .second] [(.long (own_H DV ov (min 9 nv)))])) _
      refine XS.aload X168.here hx rfl (hb hby at_425) rfl rfl ?_
      show Steps p.tables e below (T168.setTop (mkF m 427 #[.val (.long av), .second, .val (.long cv), .second, .val (.int fv), .val (.int lv), .val (.ref b76), .val (.int (Int32.ofNat ov)), .val (.int (Int32.ofNat nv)), .val (.int (Int32.ofNat (ov + nv))), .val (.long ((-72057594037927936 : Int64) ||| ((own_H DV ov nv) &&& (72057594037927935 : Int64)))), .second, .unset, .unset, .val (.long (own_H DV ov (min 9 nv))), .second] [(.ref b76), (.long (own_H DV ov (min 9 nv)))])) _
      refine XS.iload X168.here hx rfl (hb hby at_427) rfl ?_
      show Steps p.tables e below (T168.setTop (mkF m 429 #[.val (.long av), .second, .val (.long cv), .second, .val (.int fv), .val (.int lv), .val (.ref b76), .val (.int (Int32.ofNat ov)), .val (.int (Int32.ofNat nv)), .val (.int (Int32.ofNat (ov + nv))), .val (.long ((-72057594037927936 : Int64) ||| ((own_H DV ov nv) &&& (72057594037927935 : Int64)))), .second, .unset, .unset, .val (.long (own_H DV ov (min 9 nv))), .second] [(.int (Int32.ofNat ov)), (.ref b76), (.long (own_H DV ov (min 9 nv)))])) _
      refine XS.iload X168.here hx rfl (hb hby at_429) rfl ?_
      show Steps p.tables e below (T168.setTop (mkF m 431 #[.val (.long av), .second, .val (.long cv), .second, .val (.int fv), .val (.int lv), .val (.ref b76), .val (.int (Int32.ofNat ov)), .val (.int (Int32.ofNat nv)), .val (.int (Int32.ofNat (ov + nv))), .val (.long ((-72057594037927936 : Int64) ||| ((own_H DV ov nv) &&& (72057594037927935 : Int64)))), .second, .unset, .unset, .val (.long (own_H DV ov (min 9 nv))), .second] [(.int (Int32.ofNat nv)), (.int (Int32.ofNat ov)), (.ref b76), (.long (own_H DV ov (min 9 nv)))])) _
      refine XS.bipush X168.here hx rfl (hb hby at_431) ?_
      show Steps p.tables e below (T168.setTop (mkF m 433 #[.val (.long av), .second, .val (.long cv), .second, .val (.int fv), .val (.int lv), .val (.ref b76), .val (.int (Int32.ofNat ov)), .val (.int (Int32.ofNat nv)), .val (.int (Int32.ofNat (ov + nv))), .val (.long ((-72057594037927936 : Int64) ||| ((own_H DV ov nv) &&& (72057594037927935 : Int64)))), .second, .unset, .unset, .val (.long (own_H DV ov (min 9 nv))), .second] [(.int (9 : Int32)), (.int (Int32.ofNat nv)), (.int (Int32.ofNat ov)), (.ref b76), (.long (own_H DV ov (min 9 nv)))])) _
      exact kt
    obtain ⟨v171, _, ⟨T171, L171, k171, n171⟩, -, X171, ⟨Lc171, hQ171, l171, y171, z171⟩, st171⟩ := Jvm.LawKit.callS X168 hx (y := (⟨"com/example/attestry/attestry/ParticipantNamesKeyPinLaw", "step", "(J[BIII)J"⟩ : MethodName)) hown (mvT hZ (hw _ (List.mem_of_getElem? (i := 13) rfl))) (mvT hZ (hw _ (List.mem_of_getElem? (i := 14) rfl))) (mvT hZ (hw _ (List.mem_of_getElem? (i := 8) rfl))) (mvT hZ (hw _ (List.mem_of_getElem? (i := 15) rfl))) (by decide) (backOf (W := 0) (rm3 l Z aZ hw [] (own_H DV ov (min 9 nv)) b76 ov nv 9 k76 vs DV T138.heap n0 Zs138 F138_0 hDV hon (by omega)) hZ (hw _ (List.mem_of_getElem? (i := 15) rfl)) (hw _ (List.mem_of_getElem? (i := 8) rfl)) (by decide) (by decide)) (g := (mkF m 433 #[.val (.long av), .second, .val (.long cv), .second, .val (.int fv), .val (.int lv), .val (.ref b76), .val (.int (Int32.ofNat ov)), .val (.int (Int32.ofNat nv)), .val (.int (Int32.ofNat (ov + nv))), .val (.long ((-72057594037927936 : Int64) ||| ((own_H DV ov nv) &&& (72057594037927935 : Int64)))), .second, .unset, .unset, .val (.long (own_H DV ov (min 9 nv))), .second] [(.int (9 : Int32)), (.int (Int32.ofNat nv)), (.int (Int32.ofNat ov)), (.ref b76), (.long (own_H DV ov (min 9 nv)))])) rfl (by rw [hml]; rfl) (argsL := [(.long (own_H DV ov (min 9 nv))), (.ref b76), (.int (Int32.ofNat ov)), (.int (Int32.ofNat nv)), (.int (9 : Int32))]) (rest := []) (lenOf pd_2 rfl) rfl (by show 2 * 0 + _ ≤ _; exact Nat.le_of_eq rfl) (hb hby at_433) (fun _ _ => ⟨rfl, e168, (by decide : 1 + 0 ≤ _), (by decide : 16 + 0 ≤ _)⟩)
    dsimp only [Pt.U, Pt.locs, Pt.cells, Pt.slots] at X171 l171 y171 z171 st171 hQ171
    rw [l171, y171, z171] at X171
    clear l171 y171 z171
    obtain ⟨vq171, N171q, e171⟩ := hQ171
    rw [vq171] at st171
    have N171 := Fr.app N168 N171q
    have pre171 : ∀ t, Steps p.tables e below (T171.setTop (mkF m 436 #[.val (.long av), .second, .val (.long cv), .second, .val (.int fv), .val (.int lv), .val (.ref b76), .val (.int (Int32.ofNat ov)), .val (.int (Int32.ofNat nv)), .val (.int (Int32.ofNat (ov + nv))), .val (.long ((-72057594037927936 : Int64) ||| ((own_H DV ov nv) &&& (72057594037927935 : Int64)))), .second, .unset, .unset, .val (.long (own_H DV ov (min 9 nv))), .second] [(.long (f3 (own_H DV ov (min 9 nv)) ov nv 9 DV))])) t → Steps p.tables e below (s₁.setTop (entryFrame m #[(.long av), (.long cv), (.int fv), (.int lv)] maxLocals)) t := fun t kt => pre170 _ (st171 t kt)
    have pre172 : ∀ t, Steps p.tables e below (T171.setTop (mkF m 436 #[.val (.long av), .second, .val (.long cv), .second, .val (.int fv), .val (.int lv), .val (.ref b76), .val (.int (Int32.ofNat ov)), .val (.int (Int32.ofNat nv)), .val (.int (Int32.ofNat (ov + nv))), .val (.long ((-72057594037927936 : Int64) ||| ((own_H DV ov nv) &&& (72057594037927935 : Int64)))), .second, .unset, .unset, .val (.long (own_H DV ov (min 9 nv))), .second] [(.long (own_H DV ov (min 10 nv)))])) t → Steps p.tables e below (s₁.setTop (entryFrame m #[(.long av), (.long cv), (.int fv), (.int lv)] maxLocals)) t := by
      have q := pre171
      rw [own_step DV ov nv 9 (by omega) (by omega)] at q
      exact q
    have pre173 : ∀ t, Steps p.tables e below (T171.setTop (mkF m 448 #[.val (.long av), .second, .val (.long cv), .second, .val (.int fv), .val (.int lv), .val (.ref b76), .val (.int (Int32.ofNat ov)), .val (.int (Int32.ofNat nv)), .val (.int (Int32.ofNat (ov + nv))), .val (.long ((-72057594037927936 : Int64) ||| ((own_H DV ov nv) &&& (72057594037927935 : Int64)))), .second, .unset, .unset, .val (.long (own_H DV ov (min 10 nv))), .second] [(.int (10 : Int32)), (.int (Int32.ofNat nv)), (.int (Int32.ofNat ov)), (.ref b76), (.long (own_H DV ov (min 10 nv)))])) t → Steps p.tables e below (s₁.setTop (entryFrame m #[(.long av), (.long cv), (.int fv), (.int lv)] maxLocals)) t := fun t kt => by
      refine pre172 _ ?_
      show Steps p.tables e below (T171.setTop (mkF m 436 #[.val (.long av), .second, .val (.long cv), .second, .val (.int fv), .val (.int lv), .val (.ref b76), .val (.int (Int32.ofNat ov)), .val (.int (Int32.ofNat nv)), .val (.int (Int32.ofNat (ov + nv))), .val (.long ((-72057594037927936 : Int64) ||| ((own_H DV ov nv) &&& (72057594037927935 : Int64)))), .second, .unset, .unset, .val (.long (own_H DV ov (min 9 nv))), .second] [(.long (own_H DV ov (min 10 nv)))])) _
      refine XS.lstore X171.here hx rfl (hb hby at_436) rfl (l' := #[.val (.long av), .second, .val (.long cv), .second, .val (.int fv), .val (.int lv), .val (.ref b76), .val (.int (Int32.ofNat ov)), .val (.int (Int32.ofNat nv)), .val (.int (Int32.ofNat (ov + nv))), .val (.long ((-72057594037927936 : Int64) ||| ((own_H DV ov nv) &&& (72057594037927935 : Int64)))), .second, .unset, .unset, .val (.long (own_H DV ov (min 10 nv))), .second]) rfl ?_
      show Steps p.tables e below (T171.setTop (mkF m 438 #[.val (.long av), .second, .val (.long cv), .second, .val (.int fv), .val (.int lv), .val (.ref b76), .val (.int (Int32.ofNat ov)), .val (.int (Int32.ofNat nv)), .val (.int (Int32.ofNat (ov + nv))), .val (.long ((-72057594037927936 : Int64) ||| ((own_H DV ov nv) &&& (72057594037927935 : Int64)))), .second, .unset, .unset, .val (.long (own_H DV ov (min 10 nv))), .second] [])) _
      refine XS.lload X171.here hx rfl (hb hby at_438) rfl ?_
      show Steps p.tables e below (T171.setTop (mkF m 440 #[.val (.long av), .second, .val (.long cv), .second, .val (.int fv), .val (.int lv), .val (.ref b76), .val (.int (Int32.ofNat ov)), .val (.int (Int32.ofNat nv)), .val (.int (Int32.ofNat (ov + nv))), .val (.long ((-72057594037927936 : Int64) ||| ((own_H DV ov nv) &&& (72057594037927935 : Int64)))), .second, .unset, .unset, .val (.long (own_H DV ov (min 10 nv))), .second] [(.long (own_H DV ov (min 10 nv)))])) _
      refine XS.aload X171.here hx rfl (hb hby at_440) rfl rfl ?_
      show Steps p.tables e below (T171.setTop (mkF m 442 #[.val (.long av), .second, .val (.long cv), .second, .val (.int fv), .val (.int lv), .val (.ref b76), .val (.int (Int32.ofNat ov)), .val (.int (Int32.ofNat nv)), .val (.int (Int32.ofNat (ov + nv))), .val (.long ((-72057594037927936 : Int64) ||| ((own_H DV ov nv) &&& (72057594037927935 : Int64)))), .second, .unset, .unset, .val (.long (own_H DV ov (min 10 nv))), .second] [(.ref b76), (.long (own_H DV ov (min 10 nv)))])) _
      refine XS.iload X171.here hx rfl (hb hby at_442) rfl ?_
      show Steps p.tables e below (T171.setTop (mkF m 444 #[.val (.long av), .second, .val (.long cv), .second, .val (.int fv), .val (.int lv), .val (.ref b76), .val (.int (Int32.ofNat ov)), .val (.int (Int32.ofNat nv)), .val (.int (Int32.ofNat (ov + nv))), .val (.long ((-72057594037927936 : Int64) ||| ((own_H DV ov nv) &&& (72057594037927935 : Int64)))), .second, .unset, .unset, .val (.long (own_H DV ov (min 10 nv))), .second] [(.int (Int32.ofNat ov)), (.ref b76), (.long (own_H DV ov (min 10 nv)))])) _
      refine XS.iload X171.here hx rfl (hb hby at_444) rfl ?_
      show Steps p.tables e below (T171.setTop (mkF m 446 #[.val (.long av), .second, .val (.long cv), .second, .val (.int fv), .val (.int lv), .val (.ref b76), .val (.int (Int32.ofNat ov)), .val (.int (Int32.ofNat nv)), .val (.int (Int32.ofNat (ov + nv))), .val (.long ((-72057594037927936 : Int64) ||| ((own_H DV ov nv) &&& (72057594037927935 : Int64)))), .second, .unset, .unset, .val (.long (own_H DV ov (min 10 nv))), .second] [(.int (Int32.ofNat nv)), (.int (Int32.ofNat ov)), (.ref b76), (.long (own_H DV ov (min 10 nv)))])) _
      refine XS.bipush X171.here hx rfl (hb hby at_446) ?_
      show Steps p.tables e below (T171.setTop (mkF m 448 #[.val (.long av), .second, .val (.long cv), .second, .val (.int fv), .val (.int lv), .val (.ref b76), .val (.int (Int32.ofNat ov)), .val (.int (Int32.ofNat nv)), .val (.int (Int32.ofNat (ov + nv))), .val (.long ((-72057594037927936 : Int64) ||| ((own_H DV ov nv) &&& (72057594037927935 : Int64)))), .second, .unset, .unset, .val (.long (own_H DV ov (min 10 nv))), .second] [(.int (10 : Int32)), (.int (Int32.ofNat nv)), (.int (Int32.ofNat ov)), (.ref b76), (.long (own_H DV ov (min 10 nv)))])) _
      exact kt
    obtain ⟨v174, _, ⟨T174, L174, k174, n174⟩, -, X174, ⟨Lc174, hQ174, l174, y174, z174⟩, st174⟩ := Jvm.LawKit.callS X171 hx (y := (⟨"com/example/attestry/attestry/ParticipantNamesKeyPinLaw", "step", "(J[BIII)J"⟩ : MethodName)) hown (mvT hZ (hw _ (List.mem_of_getElem? (i := 13) rfl))) (mvT hZ (hw _ (List.mem_of_getElem? (i := 14) rfl))) (mvT hZ (hw _ (List.mem_of_getElem? (i := 8) rfl))) (mvT hZ (hw _ (List.mem_of_getElem? (i := 15) rfl))) (by decide) (backOf (W := 0) (rm3 l Z aZ hw [] (own_H DV ov (min 10 nv)) b76 ov nv 10 k76 vs DV T138.heap n0 Zs138 F138_0 hDV hon (by omega)) hZ (hw _ (List.mem_of_getElem? (i := 15) rfl)) (hw _ (List.mem_of_getElem? (i := 8) rfl)) (by decide) (by decide)) (g := (mkF m 448 #[.val (.long av), .second, .val (.long cv), .second, .val (.int fv), .val (.int lv), .val (.ref b76), .val (.int (Int32.ofNat ov)), .val (.int (Int32.ofNat nv)), .val (.int (Int32.ofNat (ov + nv))), .val (.long ((-72057594037927936 : Int64) ||| ((own_H DV ov nv) &&& (72057594037927935 : Int64)))), .second, .unset, .unset, .val (.long (own_H DV ov (min 10 nv))), .second] [(.int (10 : Int32)), (.int (Int32.ofNat nv)), (.int (Int32.ofNat ov)), (.ref b76), (.long (own_H DV ov (min 10 nv)))])) rfl (by rw [hml]; rfl) (argsL := [(.long (own_H DV ov (min 10 nv))), (.ref b76), (.int (Int32.ofNat ov)), (.int (Int32.ofNat nv)), (.int (10 : Int32))]) (rest := []) (lenOf pd_2 rfl) rfl (by show 2 * 0 + _ ≤ _; exact Nat.le_of_eq rfl) (hb hby at_448) (fun _ _ => ⟨rfl, e171, (by decide : 1 + 0 ≤ _), (by decide : 16 + 0 ≤ _)⟩)
    dsimp only [Pt.U, Pt.locs, Pt.cells, Pt.slots] at X174 l174 y174 z174 st174 hQ174
    rw [l174, y174, z174] at X174
    clear l174 y174 z174
    obtain ⟨vq174, N174q, e174⟩ := hQ174
    rw [vq174] at st174
    have N174 := Fr.app N171 N174q
    have pre174 : ∀ t, Steps p.tables e below (T174.setTop (mkF m 451 #[.val (.long av), .second, .val (.long cv), .second, .val (.int fv), .val (.int lv), .val (.ref b76), .val (.int (Int32.ofNat ov)), .val (.int (Int32.ofNat nv)), .val (.int (Int32.ofNat (ov + nv))), .val (.long ((-72057594037927936 : Int64) ||| ((own_H DV ov nv) &&& (72057594037927935 : Int64)))), .second, .unset, .unset, .val (.long (own_H DV ov (min 10 nv))), .second] [(.long (f3 (own_H DV ov (min 10 nv)) ov nv 10 DV))])) t → Steps p.tables e below (s₁.setTop (entryFrame m #[(.long av), (.long cv), (.int fv), (.int lv)] maxLocals)) t := fun t kt => pre173 _ (st174 t kt)
    have pre175 : ∀ t, Steps p.tables e below (T174.setTop (mkF m 451 #[.val (.long av), .second, .val (.long cv), .second, .val (.int fv), .val (.int lv), .val (.ref b76), .val (.int (Int32.ofNat ov)), .val (.int (Int32.ofNat nv)), .val (.int (Int32.ofNat (ov + nv))), .val (.long ((-72057594037927936 : Int64) ||| ((own_H DV ov nv) &&& (72057594037927935 : Int64)))), .second, .unset, .unset, .val (.long (own_H DV ov (min 10 nv))), .second] [(.long (own_H DV ov (min 11 nv)))])) t → Steps p.tables e below (s₁.setTop (entryFrame m #[(.long av), (.long cv), (.int fv), (.int lv)] maxLocals)) t := by
      have q := pre174
      rw [own_step DV ov nv 10 (by omega) (by omega)] at q
      exact q
    have pre176 : ∀ t, Steps p.tables e below (T174.setTop (mkF m 463 #[.val (.long av), .second, .val (.long cv), .second, .val (.int fv), .val (.int lv), .val (.ref b76), .val (.int (Int32.ofNat ov)), .val (.int (Int32.ofNat nv)), .val (.int (Int32.ofNat (ov + nv))), .val (.long ((-72057594037927936 : Int64) ||| ((own_H DV ov nv) &&& (72057594037927935 : Int64)))), .second, .unset, .unset, .val (.long (own_H DV ov (min 11 nv))), .second] [(.int (11 : Int32)), (.int (Int32.ofNat nv)), (.int (Int32.ofNat ov)), (.ref b76), (.long (own_H DV ov (min 11 nv)))])) t → Steps p.tables e below (s₁.setTop (entryFrame m #[(.long av), (.long cv), (.int fv), (.int lv)] maxLocals)) t := fun t kt => by
      refine pre175 _ ?_
      show Steps p.tables e below (T174.setTop (mkF m 451 #[.val (.long av), .second, .val (.long cv), .second, .val (.int fv), .val (.int lv), .val (.ref b76), .val (.int (Int32.ofNat ov)), .val (.int (Int32.ofNat nv)), .val (.int (Int32.ofNat (ov + nv))), .val (.long ((-72057594037927936 : Int64) ||| ((own_H DV ov nv) &&& (72057594037927935 : Int64)))), .second, .unset, .unset, .val (.long (own_H DV ov (min 10 nv))), .second] [(.long (own_H DV ov (min 11 nv)))])) _
      refine XS.lstore X174.here hx rfl (hb hby at_451) rfl (l' := #[.val (.long av), .second, .val (.long cv), .second, .val (.int fv), .val (.int lv), .val (.ref b76), .val (.int (Int32.ofNat ov)), .val (.int (Int32.ofNat nv)), .val (.int (Int32.ofNat (ov + nv))), .val (.long ((-72057594037927936 : Int64) ||| ((own_H DV ov nv) &&& (72057594037927935 : Int64)))), .second, .unset, .unset, .val (.long (own_H DV ov (min 11 nv))), .second]) rfl ?_
      show Steps p.tables e below (T174.setTop (mkF m 453 #[.val (.long av), .second, .val (.long cv), .second, .val (.int fv), .val (.int lv), .val (.ref b76), .val (.int (Int32.ofNat ov)), .val (.int (Int32.ofNat nv)), .val (.int (Int32.ofNat (ov + nv))), .val (.long ((-72057594037927936 : Int64) ||| ((own_H DV ov nv) &&& (72057594037927935 : Int64)))), .second, .unset, .unset, .val (.long (own_H DV ov (min 11 nv))), .second] [])) _
      refine XS.lload X174.here hx rfl (hb hby at_453) rfl ?_
      show Steps p.tables e below (T174.setTop (mkF m 455 #[.val (.long av), .second, .val (.long cv), .second, .val (.int fv), .val (.int lv), .val (.ref b76), .val (.int (Int32.ofNat ov)), .val (.int (Int32.ofNat nv)), .val (.int (Int32.ofNat (ov + nv))), .val (.long ((-72057594037927936 : Int64) ||| ((own_H DV ov nv) &&& (72057594037927935 : Int64)))), .second, .unset, .unset, .val (.long (own_H DV ov (min 11 nv))), .second] [(.long (own_H DV ov (min 11 nv)))])) _
      refine XS.aload X174.here hx rfl (hb hby at_455) rfl rfl ?_
      show Steps p.tables e below (T174.setTop (mkF m 457 #[.val (.long av), .second, .val (.long cv), .second, .val (.int fv), .val (.int lv), .val (.ref b76), .val (.int (Int32.ofNat ov)), .val (.int (Int32.ofNat nv)), .val (.int (Int32.ofNat (ov + nv))), .val (.long ((-72057594037927936 : Int64) ||| ((own_H DV ov nv) &&& (72057594037927935 : Int64)))), .second, .unset, .unset, .val (.long (own_H DV ov (min 11 nv))), .second] [(.ref b76), (.long (own_H DV ov (min 11 nv)))])) _
      refine XS.iload X174.here hx rfl (hb hby at_457) rfl ?_
      show Steps p.tables e below (T174.setTop (mkF m 459 #[.val (.long av), .second, .val (.long cv), .second, .val (.int fv), .val (.int lv), .val (.ref b76), .val (.int (Int32.ofNat ov)), .val (.int (Int32.ofNat nv)), .val (.int (Int32.ofNat (ov + nv))), .val (.long ((-72057594037927936 : Int64) ||| ((own_H DV ov nv) &&& (72057594037927935 : Int64)))), .second, .unset, .unset, .val (.long (own_H DV ov (min 11 nv))), .second] [(.int (Int32.ofNat ov)), (.ref b76), (.long (own_H DV ov (min 11 nv)))])) _
      refine XS.iload X174.here hx rfl (hb hby at_459) rfl ?_
      show Steps p.tables e below (T174.setTop (mkF m 461 #[.val (.long av), .second, .val (.long cv), .second, .val (.int fv), .val (.int lv), .val (.ref b76), .val (.int (Int32.ofNat ov)), .val (.int (Int32.ofNat nv)), .val (.int (Int32.ofNat (ov + nv))), .val (.long ((-72057594037927936 : Int64) ||| ((own_H DV ov nv) &&& (72057594037927935 : Int64)))), .second, .unset, .unset, .val (.long (own_H DV ov (min 11 nv))), .second] [(.int (Int32.ofNat nv)), (.int (Int32.ofNat ov)), (.ref b76), (.long (own_H DV ov (min 11 nv)))])) _
      refine XS.bipush X174.here hx rfl (hb hby at_461) ?_
      show Steps p.tables e below (T174.setTop (mkF m 463 #[.val (.long av), .second, .val (.long cv), .second, .val (.int fv), .val (.int lv), .val (.ref b76), .val (.int (Int32.ofNat ov)), .val (.int (Int32.ofNat nv)), .val (.int (Int32.ofNat (ov + nv))), .val (.long ((-72057594037927936 : Int64) ||| ((own_H DV ov nv) &&& (72057594037927935 : Int64)))), .second, .unset, .unset, .val (.long (own_H DV ov (min 11 nv))), .second] [(.int (11 : Int32)), (.int (Int32.ofNat nv)), (.int (Int32.ofNat ov)), (.ref b76), (.long (own_H DV ov (min 11 nv)))])) _
      exact kt
    obtain ⟨v177, _, ⟨T177, L177, k177, n177⟩, -, X177, ⟨Lc177, hQ177, l177, y177, z177⟩, st177⟩ := Jvm.LawKit.callS X174 hx (y := (⟨"com/example/attestry/attestry/ParticipantNamesKeyPinLaw", "step", "(J[BIII)J"⟩ : MethodName)) hown (mvT hZ (hw _ (List.mem_of_getElem? (i := 13) rfl))) (mvT hZ (hw _ (List.mem_of_getElem? (i := 14) rfl))) (mvT hZ (hw _ (List.mem_of_getElem? (i := 8) rfl))) (mvT hZ (hw _ (List.mem_of_getElem? (i := 15) rfl))) (by decide) (backOf (W := 0) (rm3 l Z aZ hw [] (own_H DV ov (min 11 nv)) b76 ov nv 11 k76 vs DV T138.heap n0 Zs138 F138_0 hDV hon (by omega)) hZ (hw _ (List.mem_of_getElem? (i := 15) rfl)) (hw _ (List.mem_of_getElem? (i := 8) rfl)) (by decide) (by decide)) (g := (mkF m 463 #[.val (.long av), .second, .val (.long cv), .second, .val (.int fv), .val (.int lv), .val (.ref b76), .val (.int (Int32.ofNat ov)), .val (.int (Int32.ofNat nv)), .val (.int (Int32.ofNat (ov + nv))), .val (.long ((-72057594037927936 : Int64) ||| ((own_H DV ov nv) &&& (72057594037927935 : Int64)))), .second, .unset, .unset, .val (.long (own_H DV ov (min 11 nv))), .second] [(.int (11 : Int32)), (.int (Int32.ofNat nv)), (.int (Int32.ofNat ov)), (.ref b76), (.long (own_H DV ov (min 11 nv)))])) rfl (by rw [hml]; rfl) (argsL := [(.long (own_H DV ov (min 11 nv))), (.ref b76), (.int (Int32.ofNat ov)), (.int (Int32.ofNat nv)), (.int (11 : Int32))]) (rest := []) (lenOf pd_2 rfl) rfl (by show 2 * 0 + _ ≤ _; exact Nat.le_of_eq rfl) (hb hby at_463) (fun _ _ => ⟨rfl, e174, (by decide : 1 + 0 ≤ _), (by decide : 16 + 0 ≤ _)⟩)
    dsimp only [Pt.U, Pt.locs, Pt.cells, Pt.slots] at X177 l177 y177 z177 st177 hQ177
    rw [l177, y177, z177] at X177
    clear l177 y177 z177
    obtain ⟨vq177, N177q, e177⟩ := hQ177
    rw [vq177] at st177
    have N177 := Fr.app N174 N177q
    have pre177 : ∀ t, Steps p.tables e below (T177.setTop (mkF m 466 #[.val (.long av), .second, .val (.long cv), .second, .val (.int fv), .val (.int lv), .val (.ref b76), .val (.int (Int32.ofNat ov)), .val (.int (Int32.ofNat nv)), .val (.int (Int32.ofNat (ov + nv))), .val (.long ((-72057594037927936 : Int64) ||| ((own_H DV ov nv) &&& (72057594037927935 : Int64)))), .second, .unset, .unset, .val (.long (own_H DV ov (min 11 nv))), .second] [(.long (f3 (own_H DV ov (min 11 nv)) ov nv 11 DV))])) t → Steps p.tables e below (s₁.setTop (entryFrame m #[(.long av), (.long cv), (.int fv), (.int lv)] maxLocals)) t := fun t kt => pre176 _ (st177 t kt)
    have pre178 : ∀ t, Steps p.tables e below (T177.setTop (mkF m 466 #[.val (.long av), .second, .val (.long cv), .second, .val (.int fv), .val (.int lv), .val (.ref b76), .val (.int (Int32.ofNat ov)), .val (.int (Int32.ofNat nv)), .val (.int (Int32.ofNat (ov + nv))), .val (.long ((-72057594037927936 : Int64) ||| ((own_H DV ov nv) &&& (72057594037927935 : Int64)))), .second, .unset, .unset, .val (.long (own_H DV ov (min 11 nv))), .second] [(.long (own_H DV ov (min 12 nv)))])) t → Steps p.tables e below (s₁.setTop (entryFrame m #[(.long av), (.long cv), (.int fv), (.int lv)] maxLocals)) t := by
      have q := pre177
      rw [own_step DV ov nv 11 (by omega) (by omega)] at q
      exact q
    have pre179 : ∀ t, Steps p.tables e below (T177.setTop (mkF m 478 #[.val (.long av), .second, .val (.long cv), .second, .val (.int fv), .val (.int lv), .val (.ref b76), .val (.int (Int32.ofNat ov)), .val (.int (Int32.ofNat nv)), .val (.int (Int32.ofNat (ov + nv))), .val (.long ((-72057594037927936 : Int64) ||| ((own_H DV ov nv) &&& (72057594037927935 : Int64)))), .second, .unset, .unset, .val (.long (own_H DV ov (min 12 nv))), .second] [(.int (12 : Int32)), (.int (Int32.ofNat nv)), (.int (Int32.ofNat ov)), (.ref b76), (.long (own_H DV ov (min 12 nv)))])) t → Steps p.tables e below (s₁.setTop (entryFrame m #[(.long av), (.long cv), (.int fv), (.int lv)] maxLocals)) t := fun t kt => by
      refine pre178 _ ?_
      show Steps p.tables e below (T177.setTop (mkF m 466 #[.val (.long av), .second, .val (.long cv), .second, .val (.int fv), .val (.int lv), .val (.ref b76), .val (.int (Int32.ofNat ov)), .val (.int (Int32.ofNat nv)), .val (.int (Int32.ofNat (ov + nv))), .val (.long ((-72057594037927936 : Int64) ||| ((own_H DV ov nv) &&& (72057594037927935 : Int64)))), .second, .unset, .unset, .val (.long (own_H DV ov (min 11 nv))), .second] [(.long (own_H DV ov (min 12 nv)))])) _
      refine XS.lstore X177.here hx rfl (hb hby at_466) rfl (l' := #[.val (.long av), .second, .val (.long cv), .second, .val (.int fv), .val (.int lv), .val (.ref b76), .val (.int (Int32.ofNat ov)), .val (.int (Int32.ofNat nv)), .val (.int (Int32.ofNat (ov + nv))), .val (.long ((-72057594037927936 : Int64) ||| ((own_H DV ov nv) &&& (72057594037927935 : Int64)))), .second, .unset, .unset, .val (.long (own_H DV ov (min 12 nv))), .second]) rfl ?_
      show Steps p.tables e below (T177.setTop (mkF m 468 #[.val (.long av), .second, .val (.long cv), .second, .val (.int fv), .val (.int lv), .val (.ref b76), .val (.int (Int32.ofNat ov)), .val (.int (Int32.ofNat nv)), .val (.int (Int32.ofNat (ov + nv))), .val (.long ((-72057594037927936 : Int64) ||| ((own_H DV ov nv) &&& (72057594037927935 : Int64)))), .second, .unset, .unset, .val (.long (own_H DV ov (min 12 nv))), .second] [])) _
      refine XS.lload X177.here hx rfl (hb hby at_468) rfl ?_
      show Steps p.tables e below (T177.setTop (mkF m 470 #[.val (.long av), .second, .val (.long cv), .second, .val (.int fv), .val (.int lv), .val (.ref b76), .val (.int (Int32.ofNat ov)), .val (.int (Int32.ofNat nv)), .val (.int (Int32.ofNat (ov + nv))), .val (.long ((-72057594037927936 : Int64) ||| ((own_H DV ov nv) &&& (72057594037927935 : Int64)))), .second, .unset, .unset, .val (.long (own_H DV ov (min 12 nv))), .second] [(.long (own_H DV ov (min 12 nv)))])) _
      refine XS.aload X177.here hx rfl (hb hby at_470) rfl rfl ?_
      show Steps p.tables e below (T177.setTop (mkF m 472 #[.val (.long av), .second, .val (.long cv), .second, .val (.int fv), .val (.int lv), .val (.ref b76), .val (.int (Int32.ofNat ov)), .val (.int (Int32.ofNat nv)), .val (.int (Int32.ofNat (ov + nv))), .val (.long ((-72057594037927936 : Int64) ||| ((own_H DV ov nv) &&& (72057594037927935 : Int64)))), .second, .unset, .unset, .val (.long (own_H DV ov (min 12 nv))), .second] [(.ref b76), (.long (own_H DV ov (min 12 nv)))])) _
      refine XS.iload X177.here hx rfl (hb hby at_472) rfl ?_
      show Steps p.tables e below (T177.setTop (mkF m 474 #[.val (.long av), .second, .val (.long cv), .second, .val (.int fv), .val (.int lv), .val (.ref b76), .val (.int (Int32.ofNat ov)), .val (.int (Int32.ofNat nv)), .val (.int (Int32.ofNat (ov + nv))), .val (.long ((-72057594037927936 : Int64) ||| ((own_H DV ov nv) &&& (72057594037927935 : Int64)))), .second, .unset, .unset, .val (.long (own_H DV ov (min 12 nv))), .second] [(.int (Int32.ofNat ov)), (.ref b76), (.long (own_H DV ov (min 12 nv)))])) _
      refine XS.iload X177.here hx rfl (hb hby at_474) rfl ?_
      show Steps p.tables e below (T177.setTop (mkF m 476 #[.val (.long av), .second, .val (.long cv), .second, .val (.int fv), .val (.int lv), .val (.ref b76), .val (.int (Int32.ofNat ov)), .val (.int (Int32.ofNat nv)), .val (.int (Int32.ofNat (ov + nv))), .val (.long ((-72057594037927936 : Int64) ||| ((own_H DV ov nv) &&& (72057594037927935 : Int64)))), .second, .unset, .unset, .val (.long (own_H DV ov (min 12 nv))), .second] [(.int (Int32.ofNat nv)), (.int (Int32.ofNat ov)), (.ref b76), (.long (own_H DV ov (min 12 nv)))])) _
      refine XS.bipush X177.here hx rfl (hb hby at_476) ?_
      show Steps p.tables e below (T177.setTop (mkF m 478 #[.val (.long av), .second, .val (.long cv), .second, .val (.int fv), .val (.int lv), .val (.ref b76), .val (.int (Int32.ofNat ov)), .val (.int (Int32.ofNat nv)), .val (.int (Int32.ofNat (ov + nv))), .val (.long ((-72057594037927936 : Int64) ||| ((own_H DV ov nv) &&& (72057594037927935 : Int64)))), .second, .unset, .unset, .val (.long (own_H DV ov (min 12 nv))), .second] [(.int (12 : Int32)), (.int (Int32.ofNat nv)), (.int (Int32.ofNat ov)), (.ref b76), (.long (own_H DV ov (min 12 nv)))])) _
      exact kt
    obtain ⟨v180, _, ⟨T180, L180, k180, n180⟩, -, X180, ⟨Lc180, hQ180, l180, y180, z180⟩, st180⟩ := Jvm.LawKit.callS X177 hx (y := (⟨"com/example/attestry/attestry/ParticipantNamesKeyPinLaw", "step", "(J[BIII)J"⟩ : MethodName)) hown (mvT hZ (hw _ (List.mem_of_getElem? (i := 13) rfl))) (mvT hZ (hw _ (List.mem_of_getElem? (i := 14) rfl))) (mvT hZ (hw _ (List.mem_of_getElem? (i := 8) rfl))) (mvT hZ (hw _ (List.mem_of_getElem? (i := 15) rfl))) (by decide) (backOf (W := 0) (rm3 l Z aZ hw [] (own_H DV ov (min 12 nv)) b76 ov nv 12 k76 vs DV T138.heap n0 Zs138 F138_0 hDV hon (by omega)) hZ (hw _ (List.mem_of_getElem? (i := 15) rfl)) (hw _ (List.mem_of_getElem? (i := 8) rfl)) (by decide) (by decide)) (g := (mkF m 478 #[.val (.long av), .second, .val (.long cv), .second, .val (.int fv), .val (.int lv), .val (.ref b76), .val (.int (Int32.ofNat ov)), .val (.int (Int32.ofNat nv)), .val (.int (Int32.ofNat (ov + nv))), .val (.long ((-72057594037927936 : Int64) ||| ((own_H DV ov nv) &&& (72057594037927935 : Int64)))), .second, .unset, .unset, .val (.long (own_H DV ov (min 12 nv))), .second] [(.int (12 : Int32)), (.int (Int32.ofNat nv)), (.int (Int32.ofNat ov)), (.ref b76), (.long (own_H DV ov (min 12 nv)))])) rfl (by rw [hml]; rfl) (argsL := [(.long (own_H DV ov (min 12 nv))), (.ref b76), (.int (Int32.ofNat ov)), (.int (Int32.ofNat nv)), (.int (12 : Int32))]) (rest := []) (lenOf pd_2 rfl) rfl (by show 2 * 0 + _ ≤ _; exact Nat.le_of_eq rfl) (hb hby at_478) (fun _ _ => ⟨rfl, e177, (by decide : 1 + 0 ≤ _), (by decide : 16 + 0 ≤ _)⟩)
    dsimp only [Pt.U, Pt.locs, Pt.cells, Pt.slots] at X180 l180 y180 z180 st180 hQ180
    rw [l180, y180, z180] at X180
    clear l180 y180 z180
    obtain ⟨vq180, N180q, e180⟩ := hQ180
    rw [vq180] at st180
    have N180 := Fr.app N177 N180q
    have pre180 : ∀ t, Steps p.tables e below (T180.setTop (mkF m 481 #[.val (.long av), .second, .val (.long cv), .second, .val (.int fv), .val (.int lv), .val (.ref b76), .val (.int (Int32.ofNat ov)), .val (.int (Int32.ofNat nv)), .val (.int (Int32.ofNat (ov + nv))), .val (.long ((-72057594037927936 : Int64) ||| ((own_H DV ov nv) &&& (72057594037927935 : Int64)))), .second, .unset, .unset, .val (.long (own_H DV ov (min 12 nv))), .second] [(.long (f3 (own_H DV ov (min 12 nv)) ov nv 12 DV))])) t → Steps p.tables e below (s₁.setTop (entryFrame m #[(.long av), (.long cv), (.int fv), (.int lv)] maxLocals)) t := fun t kt => pre179 _ (st180 t kt)
    have pre181 : ∀ t, Steps p.tables e below (T180.setTop (mkF m 481 #[.val (.long av), .second, .val (.long cv), .second, .val (.int fv), .val (.int lv), .val (.ref b76), .val (.int (Int32.ofNat ov)), .val (.int (Int32.ofNat nv)), .val (.int (Int32.ofNat (ov + nv))), .val (.long ((-72057594037927936 : Int64) ||| ((own_H DV ov nv) &&& (72057594037927935 : Int64)))), .second, .unset, .unset, .val (.long (own_H DV ov (min 12 nv))), .second] [(.long (own_H DV ov (min 13 nv)))])) t → Steps p.tables e below (s₁.setTop (entryFrame m #[(.long av), (.long cv), (.int fv), (.int lv)] maxLocals)) t := by
      have q := pre180
      rw [own_step DV ov nv 12 (by omega) (by omega)] at q
      exact q
    have pre182 : ∀ t, Steps p.tables e below (T180.setTop (mkF m 493 #[.val (.long av), .second, .val (.long cv), .second, .val (.int fv), .val (.int lv), .val (.ref b76), .val (.int (Int32.ofNat ov)), .val (.int (Int32.ofNat nv)), .val (.int (Int32.ofNat (ov + nv))), .val (.long ((-72057594037927936 : Int64) ||| ((own_H DV ov nv) &&& (72057594037927935 : Int64)))), .second, .unset, .unset, .val (.long (own_H DV ov (min 13 nv))), .second] [(.int (13 : Int32)), (.int (Int32.ofNat nv)), (.int (Int32.ofNat ov)), (.ref b76), (.long (own_H DV ov (min 13 nv)))])) t → Steps p.tables e below (s₁.setTop (entryFrame m #[(.long av), (.long cv), (.int fv), (.int lv)] maxLocals)) t := fun t kt => by
      refine pre181 _ ?_
      show Steps p.tables e below (T180.setTop (mkF m 481 #[.val (.long av), .second, .val (.long cv), .second, .val (.int fv), .val (.int lv), .val (.ref b76), .val (.int (Int32.ofNat ov)), .val (.int (Int32.ofNat nv)), .val (.int (Int32.ofNat (ov + nv))), .val (.long ((-72057594037927936 : Int64) ||| ((own_H DV ov nv) &&& (72057594037927935 : Int64)))), .second, .unset, .unset, .val (.long (own_H DV ov (min 12 nv))), .second] [(.long (own_H DV ov (min 13 nv)))])) _
      refine XS.lstore X180.here hx rfl (hb hby at_481) rfl (l' := #[.val (.long av), .second, .val (.long cv), .second, .val (.int fv), .val (.int lv), .val (.ref b76), .val (.int (Int32.ofNat ov)), .val (.int (Int32.ofNat nv)), .val (.int (Int32.ofNat (ov + nv))), .val (.long ((-72057594037927936 : Int64) ||| ((own_H DV ov nv) &&& (72057594037927935 : Int64)))), .second, .unset, .unset, .val (.long (own_H DV ov (min 13 nv))), .second]) rfl ?_
      show Steps p.tables e below (T180.setTop (mkF m 483 #[.val (.long av), .second, .val (.long cv), .second, .val (.int fv), .val (.int lv), .val (.ref b76), .val (.int (Int32.ofNat ov)), .val (.int (Int32.ofNat nv)), .val (.int (Int32.ofNat (ov + nv))), .val (.long ((-72057594037927936 : Int64) ||| ((own_H DV ov nv) &&& (72057594037927935 : Int64)))), .second, .unset, .unset, .val (.long (own_H DV ov (min 13 nv))), .second] [])) _
      refine XS.lload X180.here hx rfl (hb hby at_483) rfl ?_
      show Steps p.tables e below (T180.setTop (mkF m 485 #[.val (.long av), .second, .val (.long cv), .second, .val (.int fv), .val (.int lv), .val (.ref b76), .val (.int (Int32.ofNat ov)), .val (.int (Int32.ofNat nv)), .val (.int (Int32.ofNat (ov + nv))), .val (.long ((-72057594037927936 : Int64) ||| ((own_H DV ov nv) &&& (72057594037927935 : Int64)))), .second, .unset, .unset, .val (.long (own_H DV ov (min 13 nv))), .second] [(.long (own_H DV ov (min 13 nv)))])) _
      refine XS.aload X180.here hx rfl (hb hby at_485) rfl rfl ?_
      show Steps p.tables e below (T180.setTop (mkF m 487 #[.val (.long av), .second, .val (.long cv), .second, .val (.int fv), .val (.int lv), .val (.ref b76), .val (.int (Int32.ofNat ov)), .val (.int (Int32.ofNat nv)), .val (.int (Int32.ofNat (ov + nv))), .val (.long ((-72057594037927936 : Int64) ||| ((own_H DV ov nv) &&& (72057594037927935 : Int64)))), .second, .unset, .unset, .val (.long (own_H DV ov (min 13 nv))), .second] [(.ref b76), (.long (own_H DV ov (min 13 nv)))])) _
      refine XS.iload X180.here hx rfl (hb hby at_487) rfl ?_
      show Steps p.tables e below (T180.setTop (mkF m 489 #[.val (.long av), .second, .val (.long cv), .second, .val (.int fv), .val (.int lv), .val (.ref b76), .val (.int (Int32.ofNat ov)), .val (.int (Int32.ofNat nv)), .val (.int (Int32.ofNat (ov + nv))), .val (.long ((-72057594037927936 : Int64) ||| ((own_H DV ov nv) &&& (72057594037927935 : Int64)))), .second, .unset, .unset, .val (.long (own_H DV ov (min 13 nv))), .second] [(.int (Int32.ofNat ov)), (.ref b76), (.long (own_H DV ov (min 13 nv)))])) _
      refine XS.iload X180.here hx rfl (hb hby at_489) rfl ?_
      show Steps p.tables e below (T180.setTop (mkF m 491 #[.val (.long av), .second, .val (.long cv), .second, .val (.int fv), .val (.int lv), .val (.ref b76), .val (.int (Int32.ofNat ov)), .val (.int (Int32.ofNat nv)), .val (.int (Int32.ofNat (ov + nv))), .val (.long ((-72057594037927936 : Int64) ||| ((own_H DV ov nv) &&& (72057594037927935 : Int64)))), .second, .unset, .unset, .val (.long (own_H DV ov (min 13 nv))), .second] [(.int (Int32.ofNat nv)), (.int (Int32.ofNat ov)), (.ref b76), (.long (own_H DV ov (min 13 nv)))])) _
      refine XS.bipush X180.here hx rfl (hb hby at_491) ?_
      show Steps p.tables e below (T180.setTop (mkF m 493 #[.val (.long av), .second, .val (.long cv), .second, .val (.int fv), .val (.int lv), .val (.ref b76), .val (.int (Int32.ofNat ov)), .val (.int (Int32.ofNat nv)), .val (.int (Int32.ofNat (ov + nv))), .val (.long ((-72057594037927936 : Int64) ||| ((own_H DV ov nv) &&& (72057594037927935 : Int64)))), .second, .unset, .unset, .val (.long (own_H DV ov (min 13 nv))), .second] [(.int (13 : Int32)), (.int (Int32.ofNat nv)), (.int (Int32.ofNat ov)), (.ref b76), (.long (own_H DV ov (min 13 nv)))])) _
      exact kt
    obtain ⟨v183, _, ⟨T183, L183, k183, n183⟩, -, X183, ⟨Lc183, hQ183, l183, y183, z183⟩, st183⟩ := Jvm.LawKit.callS X180 hx (y := (⟨"com/example/attestry/attestry/ParticipantNamesKeyPinLaw", "step", "(J[BIII)J"⟩ : MethodName)) hown (mvT hZ (hw _ (List.mem_of_getElem? (i := 13) rfl))) (mvT hZ (hw _ (List.mem_of_getElem? (i := 14) rfl))) (mvT hZ (hw _ (List.mem_of_getElem? (i := 8) rfl))) (mvT hZ (hw _ (List.mem_of_getElem? (i := 15) rfl))) (by decide) (backOf (W := 0) (rm3 l Z aZ hw [] (own_H DV ov (min 13 nv)) b76 ov nv 13 k76 vs DV T138.heap n0 Zs138 F138_0 hDV hon (by omega)) hZ (hw _ (List.mem_of_getElem? (i := 15) rfl)) (hw _ (List.mem_of_getElem? (i := 8) rfl)) (by decide) (by decide)) (g := (mkF m 493 #[.val (.long av), .second, .val (.long cv), .second, .val (.int fv), .val (.int lv), .val (.ref b76), .val (.int (Int32.ofNat ov)), .val (.int (Int32.ofNat nv)), .val (.int (Int32.ofNat (ov + nv))), .val (.long ((-72057594037927936 : Int64) ||| ((own_H DV ov nv) &&& (72057594037927935 : Int64)))), .second, .unset, .unset, .val (.long (own_H DV ov (min 13 nv))), .second] [(.int (13 : Int32)), (.int (Int32.ofNat nv)), (.int (Int32.ofNat ov)), (.ref b76), (.long (own_H DV ov (min 13 nv)))])) rfl (by rw [hml]; rfl) (argsL := [(.long (own_H DV ov (min 13 nv))), (.ref b76), (.int (Int32.ofNat ov)), (.int (Int32.ofNat nv)), (.int (13 : Int32))]) (rest := []) (lenOf pd_2 rfl) rfl (by show 2 * 0 + _ ≤ _; exact Nat.le_of_eq rfl) (hb hby at_493) (fun _ _ => ⟨rfl, e180, (by decide : 1 + 0 ≤ _), (by decide : 16 + 0 ≤ _)⟩)
    dsimp only [Pt.U, Pt.locs, Pt.cells, Pt.slots] at X183 l183 y183 z183 st183 hQ183
    rw [l183, y183, z183] at X183
    clear l183 y183 z183
    obtain ⟨vq183, N183q, e183⟩ := hQ183
    rw [vq183] at st183
    have N183 := Fr.app N180 N183q
    have pre183 : ∀ t, Steps p.tables e below (T183.setTop (mkF m 496 #[.val (.long av), .second, .val (.long cv), .second, .val (.int fv), .val (.int lv), .val (.ref b76), .val (.int (Int32.ofNat ov)), .val (.int (Int32.ofNat nv)), .val (.int (Int32.ofNat (ov + nv))), .val (.long ((-72057594037927936 : Int64) ||| ((own_H DV ov nv) &&& (72057594037927935 : Int64)))), .second, .unset, .unset, .val (.long (own_H DV ov (min 13 nv))), .second] [(.long (f3 (own_H DV ov (min 13 nv)) ov nv 13 DV))])) t → Steps p.tables e below (s₁.setTop (entryFrame m #[(.long av), (.long cv), (.int fv), (.int lv)] maxLocals)) t := fun t kt => pre182 _ (st183 t kt)
    have pre184 : ∀ t, Steps p.tables e below (T183.setTop (mkF m 496 #[.val (.long av), .second, .val (.long cv), .second, .val (.int fv), .val (.int lv), .val (.ref b76), .val (.int (Int32.ofNat ov)), .val (.int (Int32.ofNat nv)), .val (.int (Int32.ofNat (ov + nv))), .val (.long ((-72057594037927936 : Int64) ||| ((own_H DV ov nv) &&& (72057594037927935 : Int64)))), .second, .unset, .unset, .val (.long (own_H DV ov (min 13 nv))), .second] [(.long (own_H DV ov (min 14 nv)))])) t → Steps p.tables e below (s₁.setTop (entryFrame m #[(.long av), (.long cv), (.int fv), (.int lv)] maxLocals)) t := by
      have q := pre183
      rw [own_step DV ov nv 13 (by omega) (by omega)] at q
      exact q
    have pre185 : ∀ t, Steps p.tables e below (T183.setTop (mkF m 508 #[.val (.long av), .second, .val (.long cv), .second, .val (.int fv), .val (.int lv), .val (.ref b76), .val (.int (Int32.ofNat ov)), .val (.int (Int32.ofNat nv)), .val (.int (Int32.ofNat (ov + nv))), .val (.long ((-72057594037927936 : Int64) ||| ((own_H DV ov nv) &&& (72057594037927935 : Int64)))), .second, .unset, .unset, .val (.long (own_H DV ov (min 14 nv))), .second] [(.int (14 : Int32)), (.int (Int32.ofNat nv)), (.int (Int32.ofNat ov)), (.ref b76), (.long (own_H DV ov (min 14 nv)))])) t → Steps p.tables e below (s₁.setTop (entryFrame m #[(.long av), (.long cv), (.int fv), (.int lv)] maxLocals)) t := fun t kt => by
      refine pre184 _ ?_
      show Steps p.tables e below (T183.setTop (mkF m 496 #[.val (.long av), .second, .val (.long cv), .second, .val (.int fv), .val (.int lv), .val (.ref b76), .val (.int (Int32.ofNat ov)), .val (.int (Int32.ofNat nv)), .val (.int (Int32.ofNat (ov + nv))), .val (.long ((-72057594037927936 : Int64) ||| ((own_H DV ov nv) &&& (72057594037927935 : Int64)))), .second, .unset, .unset, .val (.long (own_H DV ov (min 13 nv))), .second] [(.long (own_H DV ov (min 14 nv)))])) _
      refine XS.lstore X183.here hx rfl (hb hby at_496) rfl (l' := #[.val (.long av), .second, .val (.long cv), .second, .val (.int fv), .val (.int lv), .val (.ref b76), .val (.int (Int32.ofNat ov)), .val (.int (Int32.ofNat nv)), .val (.int (Int32.ofNat (ov + nv))), .val (.long ((-72057594037927936 : Int64) ||| ((own_H DV ov nv) &&& (72057594037927935 : Int64)))), .second, .unset, .unset, .val (.long (own_H DV ov (min 14 nv))), .second]) rfl ?_
      show Steps p.tables e below (T183.setTop (mkF m 498 #[.val (.long av), .second, .val (.long cv), .second, .val (.int fv), .val (.int lv), .val (.ref b76), .val (.int (Int32.ofNat ov)), .val (.int (Int32.ofNat nv)), .val (.int (Int32.ofNat (ov + nv))), .val (.long ((-72057594037927936 : Int64) ||| ((own_H DV ov nv) &&& (72057594037927935 : Int64)))), .second, .unset, .unset, .val (.long (own_H DV ov (min 14 nv))), .second] [])) _
      refine XS.lload X183.here hx rfl (hb hby at_498) rfl ?_
      show Steps p.tables e below (T183.setTop (mkF m 500 #[.val (.long av), .second, .val (.long cv), .second, .val (.int fv), .val (.int lv), .val (.ref b76), .val (.int (Int32.ofNat ov)), .val (.int (Int32.ofNat nv)), .val (.int (Int32.ofNat (ov + nv))), .val (.long ((-72057594037927936 : Int64) ||| ((own_H DV ov nv) &&& (72057594037927935 : Int64)))), .second, .unset, .unset, .val (.long (own_H DV ov (min 14 nv))), .second] [(.long (own_H DV ov (min 14 nv)))])) _
      refine XS.aload X183.here hx rfl (hb hby at_500) rfl rfl ?_
      show Steps p.tables e below (T183.setTop (mkF m 502 #[.val (.long av), .second, .val (.long cv), .second, .val (.int fv), .val (.int lv), .val (.ref b76), .val (.int (Int32.ofNat ov)), .val (.int (Int32.ofNat nv)), .val (.int (Int32.ofNat (ov + nv))), .val (.long ((-72057594037927936 : Int64) ||| ((own_H DV ov nv) &&& (72057594037927935 : Int64)))), .second, .unset, .unset, .val (.long (own_H DV ov (min 14 nv))), .second] [(.ref b76), (.long (own_H DV ov (min 14 nv)))])) _
      refine XS.iload X183.here hx rfl (hb hby at_502) rfl ?_
      show Steps p.tables e below (T183.setTop (mkF m 504 #[.val (.long av), .second, .val (.long cv), .second, .val (.int fv), .val (.int lv), .val (.ref b76), .val (.int (Int32.ofNat ov)), .val (.int (Int32.ofNat nv)), .val (.int (Int32.ofNat (ov + nv))), .val (.long ((-72057594037927936 : Int64) ||| ((own_H DV ov nv) &&& (72057594037927935 : Int64)))), .second, .unset, .unset, .val (.long (own_H DV ov (min 14 nv))), .second] [(.int (Int32.ofNat ov)), (.ref b76), (.long (own_H DV ov (min 14 nv)))])) _
      refine XS.iload X183.here hx rfl (hb hby at_504) rfl ?_
      show Steps p.tables e below (T183.setTop (mkF m 506 #[.val (.long av), .second, .val (.long cv), .second, .val (.int fv), .val (.int lv), .val (.ref b76), .val (.int (Int32.ofNat ov)), .val (.int (Int32.ofNat nv)), .val (.int (Int32.ofNat (ov + nv))), .val (.long ((-72057594037927936 : Int64) ||| ((own_H DV ov nv) &&& (72057594037927935 : Int64)))), .second, .unset, .unset, .val (.long (own_H DV ov (min 14 nv))), .second] [(.int (Int32.ofNat nv)), (.int (Int32.ofNat ov)), (.ref b76), (.long (own_H DV ov (min 14 nv)))])) _
      refine XS.bipush X183.here hx rfl (hb hby at_506) ?_
      show Steps p.tables e below (T183.setTop (mkF m 508 #[.val (.long av), .second, .val (.long cv), .second, .val (.int fv), .val (.int lv), .val (.ref b76), .val (.int (Int32.ofNat ov)), .val (.int (Int32.ofNat nv)), .val (.int (Int32.ofNat (ov + nv))), .val (.long ((-72057594037927936 : Int64) ||| ((own_H DV ov nv) &&& (72057594037927935 : Int64)))), .second, .unset, .unset, .val (.long (own_H DV ov (min 14 nv))), .second] [(.int (14 : Int32)), (.int (Int32.ofNat nv)), (.int (Int32.ofNat ov)), (.ref b76), (.long (own_H DV ov (min 14 nv)))])) _
      exact kt
    obtain ⟨v186, _, ⟨T186, L186, k186, n186⟩, -, X186, ⟨Lc186, hQ186, l186, y186, z186⟩, st186⟩ := Jvm.LawKit.callS X183 hx (y := (⟨"com/example/attestry/attestry/ParticipantNamesKeyPinLaw", "step", "(J[BIII)J"⟩ : MethodName)) hown (mvT hZ (hw _ (List.mem_of_getElem? (i := 13) rfl))) (mvT hZ (hw _ (List.mem_of_getElem? (i := 14) rfl))) (mvT hZ (hw _ (List.mem_of_getElem? (i := 8) rfl))) (mvT hZ (hw _ (List.mem_of_getElem? (i := 15) rfl))) (by decide) (backOf (W := 0) (rm3 l Z aZ hw [] (own_H DV ov (min 14 nv)) b76 ov nv 14 k76 vs DV T138.heap n0 Zs138 F138_0 hDV hon (by omega)) hZ (hw _ (List.mem_of_getElem? (i := 15) rfl)) (hw _ (List.mem_of_getElem? (i := 8) rfl)) (by decide) (by decide)) (g := (mkF m 508 #[.val (.long av), .second, .val (.long cv), .second, .val (.int fv), .val (.int lv), .val (.ref b76), .val (.int (Int32.ofNat ov)), .val (.int (Int32.ofNat nv)), .val (.int (Int32.ofNat (ov + nv))), .val (.long ((-72057594037927936 : Int64) ||| ((own_H DV ov nv) &&& (72057594037927935 : Int64)))), .second, .unset, .unset, .val (.long (own_H DV ov (min 14 nv))), .second] [(.int (14 : Int32)), (.int (Int32.ofNat nv)), (.int (Int32.ofNat ov)), (.ref b76), (.long (own_H DV ov (min 14 nv)))])) rfl (by rw [hml]; rfl) (argsL := [(.long (own_H DV ov (min 14 nv))), (.ref b76), (.int (Int32.ofNat ov)), (.int (Int32.ofNat nv)), (.int (14 : Int32))]) (rest := []) (lenOf pd_2 rfl) rfl (by show 2 * 0 + _ ≤ _; exact Nat.le_of_eq rfl) (hb hby at_508) (fun _ _ => ⟨rfl, e183, (by decide : 1 + 0 ≤ _), (by decide : 16 + 0 ≤ _)⟩)
    dsimp only [Pt.U, Pt.locs, Pt.cells, Pt.slots] at X186 l186 y186 z186 st186 hQ186
    rw [l186, y186, z186] at X186
    clear l186 y186 z186
    obtain ⟨vq186, N186q, e186⟩ := hQ186
    rw [vq186] at st186
    have N186 := Fr.app N183 N186q
    have pre186 : ∀ t, Steps p.tables e below (T186.setTop (mkF m 511 #[.val (.long av), .second, .val (.long cv), .second, .val (.int fv), .val (.int lv), .val (.ref b76), .val (.int (Int32.ofNat ov)), .val (.int (Int32.ofNat nv)), .val (.int (Int32.ofNat (ov + nv))), .val (.long ((-72057594037927936 : Int64) ||| ((own_H DV ov nv) &&& (72057594037927935 : Int64)))), .second, .unset, .unset, .val (.long (own_H DV ov (min 14 nv))), .second] [(.long (f3 (own_H DV ov (min 14 nv)) ov nv 14 DV))])) t → Steps p.tables e below (s₁.setTop (entryFrame m #[(.long av), (.long cv), (.int fv), (.int lv)] maxLocals)) t := fun t kt => pre185 _ (st186 t kt)
    have pre187 : ∀ t, Steps p.tables e below (T186.setTop (mkF m 511 #[.val (.long av), .second, .val (.long cv), .second, .val (.int fv), .val (.int lv), .val (.ref b76), .val (.int (Int32.ofNat ov)), .val (.int (Int32.ofNat nv)), .val (.int (Int32.ofNat (ov + nv))), .val (.long ((-72057594037927936 : Int64) ||| ((own_H DV ov nv) &&& (72057594037927935 : Int64)))), .second, .unset, .unset, .val (.long (own_H DV ov (min 14 nv))), .second] [(.long (own_H DV ov (min 15 nv)))])) t → Steps p.tables e below (s₁.setTop (entryFrame m #[(.long av), (.long cv), (.int fv), (.int lv)] maxLocals)) t := by
      have q := pre186
      rw [own_step DV ov nv 14 (by omega) (by omega)] at q
      exact q
    have pre188 : ∀ t, Steps p.tables e below (T186.setTop (mkF m 523 #[.val (.long av), .second, .val (.long cv), .second, .val (.int fv), .val (.int lv), .val (.ref b76), .val (.int (Int32.ofNat ov)), .val (.int (Int32.ofNat nv)), .val (.int (Int32.ofNat (ov + nv))), .val (.long ((-72057594037927936 : Int64) ||| ((own_H DV ov nv) &&& (72057594037927935 : Int64)))), .second, .unset, .unset, .val (.long (own_H DV ov (min 15 nv))), .second] [(.int (15 : Int32)), (.int (Int32.ofNat nv)), (.int (Int32.ofNat ov)), (.ref b76), (.long (own_H DV ov (min 15 nv)))])) t → Steps p.tables e below (s₁.setTop (entryFrame m #[(.long av), (.long cv), (.int fv), (.int lv)] maxLocals)) t := fun t kt => by
      refine pre187 _ ?_
      show Steps p.tables e below (T186.setTop (mkF m 511 #[.val (.long av), .second, .val (.long cv), .second, .val (.int fv), .val (.int lv), .val (.ref b76), .val (.int (Int32.ofNat ov)), .val (.int (Int32.ofNat nv)), .val (.int (Int32.ofNat (ov + nv))), .val (.long ((-72057594037927936 : Int64) ||| ((own_H DV ov nv) &&& (72057594037927935 : Int64)))), .second, .unset, .unset, .val (.long (own_H DV ov (min 14 nv))), .second] [(.long (own_H DV ov (min 15 nv)))])) _
      refine XS.lstore X186.here hx rfl (hb hby at_511) rfl (l' := #[.val (.long av), .second, .val (.long cv), .second, .val (.int fv), .val (.int lv), .val (.ref b76), .val (.int (Int32.ofNat ov)), .val (.int (Int32.ofNat nv)), .val (.int (Int32.ofNat (ov + nv))), .val (.long ((-72057594037927936 : Int64) ||| ((own_H DV ov nv) &&& (72057594037927935 : Int64)))), .second, .unset, .unset, .val (.long (own_H DV ov (min 15 nv))), .second]) rfl ?_
      show Steps p.tables e below (T186.setTop (mkF m 513 #[.val (.long av), .second, .val (.long cv), .second, .val (.int fv), .val (.int lv), .val (.ref b76), .val (.int (Int32.ofNat ov)), .val (.int (Int32.ofNat nv)), .val (.int (Int32.ofNat (ov + nv))), .val (.long ((-72057594037927936 : Int64) ||| ((own_H DV ov nv) &&& (72057594037927935 : Int64)))), .second, .unset, .unset, .val (.long (own_H DV ov (min 15 nv))), .second] [])) _
      refine XS.lload X186.here hx rfl (hb hby at_513) rfl ?_
      show Steps p.tables e below (T186.setTop (mkF m 515 #[.val (.long av), .second, .val (.long cv), .second, .val (.int fv), .val (.int lv), .val (.ref b76), .val (.int (Int32.ofNat ov)), .val (.int (Int32.ofNat nv)), .val (.int (Int32.ofNat (ov + nv))), .val (.long ((-72057594037927936 : Int64) ||| ((own_H DV ov nv) &&& (72057594037927935 : Int64)))), .second, .unset, .unset, .val (.long (own_H DV ov (min 15 nv))), .second] [(.long (own_H DV ov (min 15 nv)))])) _
      refine XS.aload X186.here hx rfl (hb hby at_515) rfl rfl ?_
      show Steps p.tables e below (T186.setTop (mkF m 517 #[.val (.long av), .second, .val (.long cv), .second, .val (.int fv), .val (.int lv), .val (.ref b76), .val (.int (Int32.ofNat ov)), .val (.int (Int32.ofNat nv)), .val (.int (Int32.ofNat (ov + nv))), .val (.long ((-72057594037927936 : Int64) ||| ((own_H DV ov nv) &&& (72057594037927935 : Int64)))), .second, .unset, .unset, .val (.long (own_H DV ov (min 15 nv))), .second] [(.ref b76), (.long (own_H DV ov (min 15 nv)))])) _
      refine XS.iload X186.here hx rfl (hb hby at_517) rfl ?_
      show Steps p.tables e below (T186.setTop (mkF m 519 #[.val (.long av), .second, .val (.long cv), .second, .val (.int fv), .val (.int lv), .val (.ref b76), .val (.int (Int32.ofNat ov)), .val (.int (Int32.ofNat nv)), .val (.int (Int32.ofNat (ov + nv))), .val (.long ((-72057594037927936 : Int64) ||| ((own_H DV ov nv) &&& (72057594037927935 : Int64)))), .second, .unset, .unset, .val (.long (own_H DV ov (min 15 nv))), .second] [(.int (Int32.ofNat ov)), (.ref b76), (.long (own_H DV ov (min 15 nv)))])) _
      refine XS.iload X186.here hx rfl (hb hby at_519) rfl ?_
      show Steps p.tables e below (T186.setTop (mkF m 521 #[.val (.long av), .second, .val (.long cv), .second, .val (.int fv), .val (.int lv), .val (.ref b76), .val (.int (Int32.ofNat ov)), .val (.int (Int32.ofNat nv)), .val (.int (Int32.ofNat (ov + nv))), .val (.long ((-72057594037927936 : Int64) ||| ((own_H DV ov nv) &&& (72057594037927935 : Int64)))), .second, .unset, .unset, .val (.long (own_H DV ov (min 15 nv))), .second] [(.int (Int32.ofNat nv)), (.int (Int32.ofNat ov)), (.ref b76), (.long (own_H DV ov (min 15 nv)))])) _
      refine XS.bipush X186.here hx rfl (hb hby at_521) ?_
      show Steps p.tables e below (T186.setTop (mkF m 523 #[.val (.long av), .second, .val (.long cv), .second, .val (.int fv), .val (.int lv), .val (.ref b76), .val (.int (Int32.ofNat ov)), .val (.int (Int32.ofNat nv)), .val (.int (Int32.ofNat (ov + nv))), .val (.long ((-72057594037927936 : Int64) ||| ((own_H DV ov nv) &&& (72057594037927935 : Int64)))), .second, .unset, .unset, .val (.long (own_H DV ov (min 15 nv))), .second] [(.int (15 : Int32)), (.int (Int32.ofNat nv)), (.int (Int32.ofNat ov)), (.ref b76), (.long (own_H DV ov (min 15 nv)))])) _
      exact kt
    obtain ⟨v189, _, ⟨T189, L189, k189, n189⟩, -, X189, ⟨Lc189, hQ189, l189, y189, z189⟩, st189⟩ := Jvm.LawKit.callS X186 hx (y := (⟨"com/example/attestry/attestry/ParticipantNamesKeyPinLaw", "step", "(J[BIII)J"⟩ : MethodName)) hown (mvT hZ (hw _ (List.mem_of_getElem? (i := 13) rfl))) (mvT hZ (hw _ (List.mem_of_getElem? (i := 14) rfl))) (mvT hZ (hw _ (List.mem_of_getElem? (i := 8) rfl))) (mvT hZ (hw _ (List.mem_of_getElem? (i := 15) rfl))) (by decide) (backOf (W := 0) (rm3 l Z aZ hw [] (own_H DV ov (min 15 nv)) b76 ov nv 15 k76 vs DV T138.heap n0 Zs138 F138_0 hDV hon (by omega)) hZ (hw _ (List.mem_of_getElem? (i := 15) rfl)) (hw _ (List.mem_of_getElem? (i := 8) rfl)) (by decide) (by decide)) (g := (mkF m 523 #[.val (.long av), .second, .val (.long cv), .second, .val (.int fv), .val (.int lv), .val (.ref b76), .val (.int (Int32.ofNat ov)), .val (.int (Int32.ofNat nv)), .val (.int (Int32.ofNat (ov + nv))), .val (.long ((-72057594037927936 : Int64) ||| ((own_H DV ov nv) &&& (72057594037927935 : Int64)))), .second, .unset, .unset, .val (.long (own_H DV ov (min 15 nv))), .second] [(.int (15 : Int32)), (.int (Int32.ofNat nv)), (.int (Int32.ofNat ov)), (.ref b76), (.long (own_H DV ov (min 15 nv)))])) rfl (by rw [hml]; rfl) (argsL := [(.long (own_H DV ov (min 15 nv))), (.ref b76), (.int (Int32.ofNat ov)), (.int (Int32.ofNat nv)), (.int (15 : Int32))]) (rest := []) (lenOf pd_2 rfl) rfl (by show 2 * 0 + _ ≤ _; exact Nat.le_of_eq rfl) (hb hby at_523) (fun _ _ => ⟨rfl, e186, (by decide : 1 + 0 ≤ _), (by decide : 16 + 0 ≤ _)⟩)
    dsimp only [Pt.U, Pt.locs, Pt.cells, Pt.slots] at X189 l189 y189 z189 st189 hQ189
    rw [l189, y189, z189] at X189
    clear l189 y189 z189
    obtain ⟨vq189, N189q, e189⟩ := hQ189
    rw [vq189] at st189
    have N189 := Fr.app N186 N189q
    have pre189 : ∀ t, Steps p.tables e below (T189.setTop (mkF m 526 #[.val (.long av), .second, .val (.long cv), .second, .val (.int fv), .val (.int lv), .val (.ref b76), .val (.int (Int32.ofNat ov)), .val (.int (Int32.ofNat nv)), .val (.int (Int32.ofNat (ov + nv))), .val (.long ((-72057594037927936 : Int64) ||| ((own_H DV ov nv) &&& (72057594037927935 : Int64)))), .second, .unset, .unset, .val (.long (own_H DV ov (min 15 nv))), .second] [(.long (f3 (own_H DV ov (min 15 nv)) ov nv 15 DV))])) t → Steps p.tables e below (s₁.setTop (entryFrame m #[(.long av), (.long cv), (.int fv), (.int lv)] maxLocals)) t := fun t kt => pre188 _ (st189 t kt)
    have pre190 : ∀ t, Steps p.tables e below (T189.setTop (mkF m 526 #[.val (.long av), .second, .val (.long cv), .second, .val (.int fv), .val (.int lv), .val (.ref b76), .val (.int (Int32.ofNat ov)), .val (.int (Int32.ofNat nv)), .val (.int (Int32.ofNat (ov + nv))), .val (.long ((-72057594037927936 : Int64) ||| ((own_H DV ov nv) &&& (72057594037927935 : Int64)))), .second, .unset, .unset, .val (.long (own_H DV ov (min 15 nv))), .second] [(.long (own_H DV ov (min 16 nv)))])) t → Steps p.tables e below (s₁.setTop (entryFrame m #[(.long av), (.long cv), (.int fv), (.int lv)] maxLocals)) t := by
      have q := pre189
      rw [own_step DV ov nv 15 (by omega) (by omega)] at q
      exact q
    have pre191 : ∀ t, Steps p.tables e below (T189.setTop (mkF m 545 #[.val (.long av), .second, .val (.long cv), .second, .val (.int fv), .val (.int lv), .val (.ref b76), .val (.int (Int32.ofNat ov)), .val (.int (Int32.ofNat nv)), .val (.int (Int32.ofNat (ov + nv))), .val (.long ((-72057594037927936 : Int64) ||| ((own_H DV ov nv) &&& (72057594037927935 : Int64)))), .second, .val (.long (((own_H DV ov (min 16 nv)) &&& (72057594037927935 : Int64)) ||| (-72057594037927936 : Int64))), .second, .val (.long (own_H DV ov (min 16 nv))), .second] [(.int (lcmpW ((-72057594037927936 : Int64) ||| ((own_H DV ov nv) &&& (72057594037927935 : Int64))) (((own_H DV ov (min 16 nv)) &&& (72057594037927935 : Int64)) ||| (-72057594037927936 : Int64))))])) t → Steps p.tables e below (s₁.setTop (entryFrame m #[(.long av), (.long cv), (.int fv), (.int lv)] maxLocals)) t := fun t kt => by
      refine pre190 _ ?_
      show Steps p.tables e below (T189.setTop (mkF m 526 #[.val (.long av), .second, .val (.long cv), .second, .val (.int fv), .val (.int lv), .val (.ref b76), .val (.int (Int32.ofNat ov)), .val (.int (Int32.ofNat nv)), .val (.int (Int32.ofNat (ov + nv))), .val (.long ((-72057594037927936 : Int64) ||| ((own_H DV ov nv) &&& (72057594037927935 : Int64)))), .second, .unset, .unset, .val (.long (own_H DV ov (min 15 nv))), .second] [(.long (own_H DV ov (min 16 nv)))])) _
      refine XS.lstore X189.here hx rfl (hb hby at_526) rfl (l' := #[.val (.long av), .second, .val (.long cv), .second, .val (.int fv), .val (.int lv), .val (.ref b76), .val (.int (Int32.ofNat ov)), .val (.int (Int32.ofNat nv)), .val (.int (Int32.ofNat (ov + nv))), .val (.long ((-72057594037927936 : Int64) ||| ((own_H DV ov nv) &&& (72057594037927935 : Int64)))), .second, .unset, .unset, .val (.long (own_H DV ov (min 16 nv))), .second]) rfl ?_
      show Steps p.tables e below (T189.setTop (mkF m 528 #[.val (.long av), .second, .val (.long cv), .second, .val (.int fv), .val (.int lv), .val (.ref b76), .val (.int (Int32.ofNat ov)), .val (.int (Int32.ofNat nv)), .val (.int (Int32.ofNat (ov + nv))), .val (.long ((-72057594037927936 : Int64) ||| ((own_H DV ov nv) &&& (72057594037927935 : Int64)))), .second, .unset, .unset, .val (.long (own_H DV ov (min 16 nv))), .second] [])) _
      refine XS.lload X189.here hx rfl (hb hby at_528) rfl ?_
      show Steps p.tables e below (T189.setTop (mkF m 530 #[.val (.long av), .second, .val (.long cv), .second, .val (.int fv), .val (.int lv), .val (.ref b76), .val (.int (Int32.ofNat ov)), .val (.int (Int32.ofNat nv)), .val (.int (Int32.ofNat (ov + nv))), .val (.long ((-72057594037927936 : Int64) ||| ((own_H DV ov nv) &&& (72057594037927935 : Int64)))), .second, .unset, .unset, .val (.long (own_H DV ov (min 16 nv))), .second] [(.long (own_H DV ov (min 16 nv)))])) _
      refine X189.ldc2Long hx hown (mvT hZ (hw _ (List.mem_of_getElem? (i := 17) rfl))) (g := (mkF m 530 #[.val (.long av), .second, .val (.long cv), .second, .val (.int fv), .val (.int lv), .val (.ref b76), .val (.int (Int32.ofNat ov)), .val (.int (Int32.ofNat nv)), .val (.int (Int32.ofNat (ov + nv))), .val (.long ((-72057594037927936 : Int64) ||| ((own_H DV ov nv) &&& (72057594037927935 : Int64)))), .second, .unset, .unset, .val (.long (own_H DV ov (min 16 nv))), .second] [(.long (own_H DV ov (min 16 nv)))])) rfl (hb hby at_530) _ ?_
      show Steps p.tables e below (T189.setTop (mkF m 533 #[.val (.long av), .second, .val (.long cv), .second, .val (.int fv), .val (.int lv), .val (.ref b76), .val (.int (Int32.ofNat ov)), .val (.int (Int32.ofNat nv)), .val (.int (Int32.ofNat (ov + nv))), .val (.long ((-72057594037927936 : Int64) ||| ((own_H DV ov nv) &&& (72057594037927935 : Int64)))), .second, .unset, .unset, .val (.long (own_H DV ov (min 16 nv))), .second] [(.long (72057594037927935 : Int64)), (.long (own_H DV ov (min 16 nv)))])) _
      refine XS.land X189.here hx rfl (hb hby at_533) rfl ?_
      show Steps p.tables e below (T189.setTop (mkF m 534 #[.val (.long av), .second, .val (.long cv), .second, .val (.int fv), .val (.int lv), .val (.ref b76), .val (.int (Int32.ofNat ov)), .val (.int (Int32.ofNat nv)), .val (.int (Int32.ofNat (ov + nv))), .val (.long ((-72057594037927936 : Int64) ||| ((own_H DV ov nv) &&& (72057594037927935 : Int64)))), .second, .unset, .unset, .val (.long (own_H DV ov (min 16 nv))), .second] [(.long ((own_H DV ov (min 16 nv)) &&& (72057594037927935 : Int64)))])) _
      refine X189.ldc2Long hx hown (mvT hZ (hw _ (List.mem_of_getElem? (i := 18) rfl))) (g := (mkF m 534 #[.val (.long av), .second, .val (.long cv), .second, .val (.int fv), .val (.int lv), .val (.ref b76), .val (.int (Int32.ofNat ov)), .val (.int (Int32.ofNat nv)), .val (.int (Int32.ofNat (ov + nv))), .val (.long ((-72057594037927936 : Int64) ||| ((own_H DV ov nv) &&& (72057594037927935 : Int64)))), .second, .unset, .unset, .val (.long (own_H DV ov (min 16 nv))), .second] [(.long ((own_H DV ov (min 16 nv)) &&& (72057594037927935 : Int64)))])) rfl (hb hby at_534) _ ?_
      show Steps p.tables e below (T189.setTop (mkF m 537 #[.val (.long av), .second, .val (.long cv), .second, .val (.int fv), .val (.int lv), .val (.ref b76), .val (.int (Int32.ofNat ov)), .val (.int (Int32.ofNat nv)), .val (.int (Int32.ofNat (ov + nv))), .val (.long ((-72057594037927936 : Int64) ||| ((own_H DV ov nv) &&& (72057594037927935 : Int64)))), .second, .unset, .unset, .val (.long (own_H DV ov (min 16 nv))), .second] [(.long (-72057594037927936 : Int64)), (.long ((own_H DV ov (min 16 nv)) &&& (72057594037927935 : Int64)))])) _
      refine XS.lor X189.here hx rfl (hb hby at_537) rfl ?_
      show Steps p.tables e below (T189.setTop (mkF m 538 #[.val (.long av), .second, .val (.long cv), .second, .val (.int fv), .val (.int lv), .val (.ref b76), .val (.int (Int32.ofNat ov)), .val (.int (Int32.ofNat nv)), .val (.int (Int32.ofNat (ov + nv))), .val (.long ((-72057594037927936 : Int64) ||| ((own_H DV ov nv) &&& (72057594037927935 : Int64)))), .second, .unset, .unset, .val (.long (own_H DV ov (min 16 nv))), .second] [(.long (((own_H DV ov (min 16 nv)) &&& (72057594037927935 : Int64)) ||| (-72057594037927936 : Int64)))])) _
      refine XS.lstore X189.here hx rfl (hb hby at_538) rfl (l' := #[.val (.long av), .second, .val (.long cv), .second, .val (.int fv), .val (.int lv), .val (.ref b76), .val (.int (Int32.ofNat ov)), .val (.int (Int32.ofNat nv)), .val (.int (Int32.ofNat (ov + nv))), .val (.long ((-72057594037927936 : Int64) ||| ((own_H DV ov nv) &&& (72057594037927935 : Int64)))), .second, .val (.long (((own_H DV ov (min 16 nv)) &&& (72057594037927935 : Int64)) ||| (-72057594037927936 : Int64))), .second, .val (.long (own_H DV ov (min 16 nv))), .second]) rfl ?_
      show Steps p.tables e below (T189.setTop (mkF m 540 #[.val (.long av), .second, .val (.long cv), .second, .val (.int fv), .val (.int lv), .val (.ref b76), .val (.int (Int32.ofNat ov)), .val (.int (Int32.ofNat nv)), .val (.int (Int32.ofNat (ov + nv))), .val (.long ((-72057594037927936 : Int64) ||| ((own_H DV ov nv) &&& (72057594037927935 : Int64)))), .second, .val (.long (((own_H DV ov (min 16 nv)) &&& (72057594037927935 : Int64)) ||| (-72057594037927936 : Int64))), .second, .val (.long (own_H DV ov (min 16 nv))), .second] [])) _
      refine XS.lload X189.here hx rfl (hb hby at_540) rfl ?_
      show Steps p.tables e below (T189.setTop (mkF m 542 #[.val (.long av), .second, .val (.long cv), .second, .val (.int fv), .val (.int lv), .val (.ref b76), .val (.int (Int32.ofNat ov)), .val (.int (Int32.ofNat nv)), .val (.int (Int32.ofNat (ov + nv))), .val (.long ((-72057594037927936 : Int64) ||| ((own_H DV ov nv) &&& (72057594037927935 : Int64)))), .second, .val (.long (((own_H DV ov (min 16 nv)) &&& (72057594037927935 : Int64)) ||| (-72057594037927936 : Int64))), .second, .val (.long (own_H DV ov (min 16 nv))), .second] [(.long ((-72057594037927936 : Int64) ||| ((own_H DV ov nv) &&& (72057594037927935 : Int64))))])) _
      refine XS.lload X189.here hx rfl (hb hby at_542) rfl ?_
      show Steps p.tables e below (T189.setTop (mkF m 544 #[.val (.long av), .second, .val (.long cv), .second, .val (.int fv), .val (.int lv), .val (.ref b76), .val (.int (Int32.ofNat ov)), .val (.int (Int32.ofNat nv)), .val (.int (Int32.ofNat (ov + nv))), .val (.long ((-72057594037927936 : Int64) ||| ((own_H DV ov nv) &&& (72057594037927935 : Int64)))), .second, .val (.long (((own_H DV ov (min 16 nv)) &&& (72057594037927935 : Int64)) ||| (-72057594037927936 : Int64))), .second, .val (.long (own_H DV ov (min 16 nv))), .second] [(.long (((own_H DV ov (min 16 nv)) &&& (72057594037927935 : Int64)) ||| (-72057594037927936 : Int64))), (.long ((-72057594037927936 : Int64) ||| ((own_H DV ov nv) &&& (72057594037927935 : Int64))))])) _
      refine XS.lcmp X189.here hx rfl (hb hby at_544) rfl ?_
      show Steps p.tables e below (T189.setTop (mkF m 545 #[.val (.long av), .second, .val (.long cv), .second, .val (.int fv), .val (.int lv), .val (.ref b76), .val (.int (Int32.ofNat ov)), .val (.int (Int32.ofNat nv)), .val (.int (Int32.ofNat (ov + nv))), .val (.long ((-72057594037927936 : Int64) ||| ((own_H DV ov nv) &&& (72057594037927935 : Int64)))), .second, .val (.long (((own_H DV ov (min 16 nv)) &&& (72057594037927935 : Int64)) ||| (-72057594037927936 : Int64))), .second, .val (.long (own_H DV ov (min 16 nv))), .second] [(.int (lcmpW ((-72057594037927936 : Int64) ||| ((own_H DV ov nv) &&& (72057594037927935 : Int64))) (((own_H DV ov (min 16 nv)) &&& (72057594037927935 : Int64)) ||| (-72057594037927936 : Int64))))])) _
      exact kt
    have pre192 : ∀ t, Steps p.tables e below (T189.setTop (mkF m 548 #[.val (.long av), .second, .val (.long cv), .second, .val (.int fv), .val (.int lv), .val (.ref b76), .val (.int (Int32.ofNat ov)), .val (.int (Int32.ofNat nv)), .val (.int (Int32.ofNat (ov + nv))), .val (.long ((-72057594037927936 : Int64) ||| ((own_H DV ov nv) &&& (72057594037927935 : Int64)))), .second, .val (.long (((own_H DV ov (min 16 nv)) &&& (72057594037927935 : Int64)) ||| (-72057594037927936 : Int64))), .second, .val (.long (own_H DV ov (min 16 nv))), .second] [])) t → Steps p.tables e below (s₁.setTop (entryFrame m #[(.long av), (.long cv), (.int fv), (.int lv)] maxLocals)) t := fun t kt => by
      refine pre191 _ ?_
      show Steps p.tables e below (T189.setTop (mkF m 545 #[.val (.long av), .second, .val (.long cv), .second, .val (.int fv), .val (.int lv), .val (.ref b76), .val (.int (Int32.ofNat ov)), .val (.int (Int32.ofNat nv)), .val (.int (Int32.ofNat (ov + nv))), .val (.long ((-72057594037927936 : Int64) ||| ((own_H DV ov nv) &&& (72057594037927935 : Int64)))), .second, .val (.long (((own_H DV ov (min 16 nv)) &&& (72057594037927935 : Int64)) ||| (-72057594037927936 : Int64))), .second, .val (.long (own_H DV ov (min 16 nv))), .second] [(.int (lcmpW ((-72057594037927936 : Int64) ||| ((own_H DV ov nv) &&& (72057594037927935 : Int64))) (((own_H DV ov (min 16 nv)) &&& (72057594037927935 : Int64)) ||| (-72057594037927936 : Int64))))])) _
      refine XS.ifNo X189.here hx rfl (hb hby at_545) rfl ((if0 _ _).trans (teq ((lw_eq ((-72057594037927936 : Int64) ||| ((own_H DV ov nv) &&& (72057594037927935 : Int64))) (((own_H DV ov (min 16 nv)) &&& (72057594037927935 : Int64)) ||| (-72057594037927936 : Int64))).mpr (own_long DV ov nv (by omega)))).2) ?_
      show Steps p.tables e below (T189.setTop (mkF m 548 #[.val (.long av), .second, .val (.long cv), .second, .val (.int fv), .val (.int lv), .val (.ref b76), .val (.int (Int32.ofNat ov)), .val (.int (Int32.ofNat nv)), .val (.int (Int32.ofNat (ov + nv))), .val (.long ((-72057594037927936 : Int64) ||| ((own_H DV ov nv) &&& (72057594037927935 : Int64)))), .second, .val (.long (((own_H DV ov (min 16 nv)) &&& (72057594037927935 : Int64)) ||| (-72057594037927936 : Int64))), .second, .val (.long (own_H DV ov (min 16 nv))), .second] [])) _
      exact kt
    have pre193 : ∀ t, Steps p.tables e below (T189.setTop (mkF m 553 #[.val (.long av), .second, .val (.long cv), .second, .val (.int fv), .val (.int lv), .val (.ref b76), .val (.int (Int32.ofNat ov)), .val (.int (Int32.ofNat nv)), .val (.int (Int32.ofNat (ov + nv))), .val (.long ((-72057594037927936 : Int64) ||| ((own_H DV ov nv) &&& (72057594037927935 : Int64)))), .second, .val (.long (((own_H DV ov (min 16 nv)) &&& (72057594037927935 : Int64)) ||| (-72057594037927936 : Int64))), .second, .val (.long (own_H DV ov (min 16 nv))), .second] [(.int (1 : Int32))])) t → Steps p.tables e below (s₁.setTop (entryFrame m #[(.long av), (.long cv), (.int fv), (.int lv)] maxLocals)) t := fun t kt => by
      refine pre192 _ ?_
      show Steps p.tables e below (T189.setTop (mkF m 548 #[.val (.long av), .second, .val (.long cv), .second, .val (.int fv), .val (.int lv), .val (.ref b76), .val (.int (Int32.ofNat ov)), .val (.int (Int32.ofNat nv)), .val (.int (Int32.ofNat (ov + nv))), .val (.long ((-72057594037927936 : Int64) ||| ((own_H DV ov nv) &&& (72057594037927935 : Int64)))), .second, .val (.long (((own_H DV ov (min 16 nv)) &&& (72057594037927935 : Int64)) ||| (-72057594037927936 : Int64))), .second, .val (.long (own_H DV ov (min 16 nv))), .second] [])) _
      refine XS.iconst X189.here hx rfl (hb hby at_548) ?_
      show Steps p.tables e below (T189.setTop (mkF m 549 #[.val (.long av), .second, .val (.long cv), .second, .val (.int fv), .val (.int lv), .val (.ref b76), .val (.int (Int32.ofNat ov)), .val (.int (Int32.ofNat nv)), .val (.int (Int32.ofNat (ov + nv))), .val (.long ((-72057594037927936 : Int64) ||| ((own_H DV ov nv) &&& (72057594037927935 : Int64)))), .second, .val (.long (((own_H DV ov (min 16 nv)) &&& (72057594037927935 : Int64)) ||| (-72057594037927936 : Int64))), .second, .val (.long (own_H DV ov (min 16 nv))), .second] [(.int (1 : Int32))])) _
      refine XS.goto X189.here hx rfl (pc0 := 549) (pc' := 553) rfl (hb hby at_549) (by decide) (by decide) ?_
      show Steps p.tables e below (T189.setTop (mkF m 553 #[.val (.long av), .second, .val (.long cv), .second, .val (.int fv), .val (.int lv), .val (.ref b76), .val (.int (Int32.ofNat ov)), .val (.int (Int32.ofNat nv)), .val (.int (Int32.ofNat (ov + nv))), .val (.long ((-72057594037927936 : Int64) ||| ((own_H DV ov nv) &&& (72057594037927935 : Int64)))), .second, .val (.long (((own_H DV ov (min 16 nv)) &&& (72057594037927935 : Int64)) ||| (-72057594037927936 : Int64))), .second, .val (.long (own_H DV ov (min 16 nv))), .second] [(.int (1 : Int32))])) _
      exact kt
    obtain ⟨fs, hr, hrun, hended, hW, hsame⟩ := X189.leave (v := some (.int (1 : Int32))) (fun h => by rw [Bd.returns] at h; cases h)
    refine ⟨_, _, pre193 _ ?_, hrun, hended, _, _, rfl, ?_, ⟨_, rfl⟩, hW, hsame.mono (by decide) (by decide)⟩
    · show Steps p.tables e below (T189.setTop (mkF m 553 #[.val (.long av), .second, .val (.long cv), .second, .val (.int fv), .val (.int lv), .val (.ref b76), .val (.int (Int32.ofNat ov)), .val (.int (Int32.ofNat nv)), .val (.int (Int32.ofNat (ov + nv))), .val (.long ((-72057594037927936 : Int64) ||| ((own_H DV ov nv) &&& (72057594037927935 : Int64)))), .second, .val (.long (((own_H DV ov (min 16 nv)) &&& (72057594037927935 : Int64)) ||| (-72057594037927936 : Int64))), .second, .val (.long (own_H DV ov (min 16 nv))), .second] [(.int (1 : Int32))])) _
      exact retN X189 hx (t := .boolean) Bd.returns (by simp) (hb hby at_553) hr
    · show Q0 av cv fv lv h0 n0 _ T189.heap _
      exact ⟨rfl, N189⟩
set_option maxRecDepth 65536 in
set_option maxHeartbeats 40000000 in
theorem comes_1 {Post : Tables → Env → Array Value → State → Outcome → State → Prop} (hpost : ∀ tb e args s v u, (limb_1_1.after args s (.returned v) u = true ∧ limb_1_2.after args s (.returned v) u = true ∧ True) → FrameEnd s (.returned v) u (Jvm.fieldLocs frame_1_writes args s ++ Jvm.arrayLocs frame_1_arrays args s ++ Jvm.staticLocs frame_1_statics s) 16 128 → Post tb e args s (.returned v) u) :
    ArmFor flags0 classFile x code maxLocals ret World_1 tables_1 room_1 Calls_1 rest_1 Pre_1 Post := by
  intro l hfl _ _ p e ha hc hk s m args below hf hA hF happ hP
  obtain ⟨hcalls, hrest, hpre⟩ := hP
  obtain ⟨-, -, -, hnamed, -, -, -, hat⟩ := (Spec.applies_iff hf).mp happ
  obtain ⟨hg, hn⟩ := and_e (Cond.before_iff.mp (show (Jvm.Cond.and given_1 narrow_1).before args s = true from hpre))
  obtain ⟨ga0, gb0⟩ := and_e hg
  obtain ⟨ga1, gb1⟩ := and_e gb0
  obtain ⟨ga2, gb2⟩ := and_e gb1
  obtain ⟨ga3, gb3⟩ := and_e gb2
  obtain ⟨w0, w1, w2, w3, rfl⟩ : ∃ w0 w1 w2 w3 : Value, args = #[w0, w1, w2, w3] := by
    have hs : args.size = 4 := by simpa [Cond.value, given_1] using ga0
    obtain ⟨L⟩ := args
    match L, hs with
    | [w0, w1, w2, w3], _ => exact ⟨w0, w1, w2, w3, rfl⟩
  have hw := fun d (hd : d ∈ tables_1) => atoms_spec (ws := Jvm.Cond.code x code maxLocals ret :: tables_1) hat d (List.mem_cons_of_mem _ hd)
  have hfit : Fit s := fun {y c} hc i hi => by
    obtain ⟨ha, rfl⟩ := Array.getElem?_eq_some_iff.mp hc
    have q := List.all_eq_true.mp ((Array.all_eq_true_iff_forall_mem.mp hF) _ (Array.getElem_mem ha)) i (List.mem_range.mpr hi)
    simpa [Array.getElem?_eq_getElem hi] using q
  obtain ⟨i0, ei0⟩ := isL_v ga1
  obtain rfl : w0 = (.long i0) := Option.some.inj ei0
  obtain ⟨i1, ei1⟩ := isL_v ga2
  obtain rfl : w1 = (.long i1) := Option.some.inj ei1
  obtain ⟨i2, ei2⟩ := is_v ga3
  obtain rfl : w2 = (.int i2) := Option.some.inj ei2
  obtain ⟨i3, ei3⟩ := is_v gb3
  obtain rfl : w3 = (.int i3) := Option.some.inj ei3
  obtain ⟨n, o, h1, h2, h3, _, L, rfl, ⟨rfl, N⟩, hq⟩ := rm0 l s _ hw tables_1 i0 i1 i2 i3  s.heap s.heap.size (Nat.le_refl _)  p e ha hc hk s m _ below hf ((Spec.applies_iff_loose hf).mp happ).1 ⟨rfl, State.Warmed39.refl s, rfl⟩ trivial
  refine ⟨n, _, h1, h2, h3, hpost _ _ _ _ _ _ ⟨Cond.after_iff.mpr rfl, Cond.after_iff.mpr (eq_i res_at (Term.int_eval (1)) rfl), trivial⟩ ⟨hq.1, hq.2.1, (hq.2.2.sift fun y hy => Or.inr (N y hy)).mono (by decide) (by decide)⟩⟩
theorem main_1_1 : Claimed_1_1 := comes_1 fun _ _ _ _ _ _ h hF => ⟨h.1, hF⟩
theorem main_1_2 : Claimed_1_2 := comes_1 fun _ _ _ _ _ _ h hF => ⟨h.2.1, hF⟩
end Jvm.Pilot.@@N@@
namespace Jvm.Pilot.@@N@@
open Jvm Jvm.ClassFile Sem Op Lib Jvm.Free Jvm.Stand Jvm.Pilot.@@N@@.Jvm.D
/-! MADE BY PROGRAM (witnessworld.py) out of the Statement's table words and the real class files: 9 classes; the members and pool entries that the words name. The judged class is class 1, her method 1. -/
namespace start1
open Jvm.ClassFile
def u (s : String) : CpInfo := .utf8 (stringToUtf16 s)
/-- a pool by its gaps: so many unusable entries, then the entry; so many at the end -/
def gap : Nat → List CpInfo → List CpInfo
  | 0, r => r
  | n + 1, r => .unusable :: gap n r
def poolList (es : List (Nat × CpInfo)) (last : Nat) : List CpInfo := es.foldr (fun e r => gap e.1 (e.2 :: r)) (gap last [])
def pool (es : List (Nat × CpInfo)) (last : Nat) : Array CpInfo := ⟨poolList es last⟩
def fileOf (pool : Array CpInfo) (this : Nat) (attrs : Array Attribute := #[]) (ms : Array MethodInfo := #[]) (fl : Nat := 33) (sup : Nat := 0) (ifs : Array Nat := #[]) (fds : Array FieldInfo := #[]) : ClassFile where
  minorVersion := 0
  majorVersion := 65
  constantPool := pool
  accessFlags := fl
  thisClass := this
  superClass := sup
  interfaces := ifs
  fields := fds
  methods := ms
  attributes := attrs
def plain (name : String) (sup : Option ClassId) : Class where
  name := name
  kind := .ordinary
  loader := none
  accessFlags := 33
  super := sup
  interfaces := #[]
  cf := none
  fields := #[]
  methods := #[]
  instanceTypes := #[]
  staticTypes := #[]
  resolved := #[]
  callSites := []
  init := .initialized
  statics := none
  mirror := none

def pool0 : Array CpInfo := pool [(5, u "<init>"), (0, u "()V"), (1, .class_ 10), (1, u "java/lang/Object")] 113

def k0m0 : Method := { name := "<init>", desc := "()V", sig := { parameters := [], returnType := none }, accessFlags := 1, code := none }
/-- java/lang/Object -/
def k0 : Class := { plain "java/lang/Object" none with
  accessFlags := 33
  interfaces := #[]
  cf := some (fileOf pool0 8 #[] #[{ accessFlags := 1, nameIndex := 5, descriptorIndex := 6, attributes := #[] }] 33 0 #[] #[])
  fields := #[]
  methods := #[k0m0]
  instanceTypes := #[]
  staticTypes := #[]
  resolved := Array.replicate 124 none
  statics := none }

def pool1 : Array CpInfo := pool [(2, .class_ 4), (1, u "java/lang/Object"), (0, u "<init>"), (0, u "()V"), (0, .integer 2147483647), (0, .methodref 9 10), (0, .class_ 11), (0, .nameAndType 12 13), (0, u "com/example/attestry/attestry/ParticipantNames"), (0, u "key"), (0, u "([BII)J"), (0, .methodref 15 16), (0, .class_ 17), (0, .nameAndType 18 19), (0, u "com/example/attestry/attestry/ParticipantNamesKeyPinLaw"), (0, u "part"), (0, u "([BIII)J"), (0, .methodref 15 21), (0, .nameAndType 22 23), (0, u "step"), (0, u "(J[BIII)J"), (0, .long 72057594037927935), (1, .long 18374686479671623680), (1, .long 31), (3, u "law"), (0, u "(JJII)Z")] 5

def k1m0 : Method := { name := "<init>", desc := "()V", sig := { parameters := [], returnType := none }, accessFlags := 1, code := none }
def k1c1 : Code := { maxStack := 6, maxLocals := 16, code := code, exceptionTable := #[], attributes := #[] }
def k1m1 : Method := { name := "law", desc := "(JJII)Z", sig := { parameters := [.long, .long, .int, .int], returnType := some .boolean }, accessFlags := 9, code := some k1c1 }
def k1c2 : Code := { maxStack := 4, maxLocals := 4, code := method_3_code, exceptionTable := #[], attributes := #[] }
def k1m2 : Method := { name := "part", desc := "([BIII)J", sig := { parameters := [(.array .byte), .int, .int, .int], returnType := some .long }, accessFlags := 10, code := some k1c2 }
def k1c3 : Code := { maxStack := 5, maxLocals := 6, code := method_4_code, exceptionTable := #[], attributes := #[] }
def k1m3 : Method := { name := "step", desc := "(J[BIII)J", sig := { parameters := [.long, (.array .byte), .int, .int, .int], returnType := some .long }, accessFlags := 10, code := some k1c3 }
/-- com/example/attestry/attestry/ParticipantNamesKeyPinLaw -/
def k1 : Class := { plain "com/example/attestry/attestry/ParticipantNamesKeyPinLaw" (some 0) with
  accessFlags := 49
  interfaces := #[]
  cf := some (fileOf pool1 15 #[] #[{ accessFlags := 1, nameIndex := 5, descriptorIndex := 6, attributes := #[] }, { accessFlags := 9, nameIndex := 32, descriptorIndex := 33, attributes := #[] }, { accessFlags := 10, nameIndex := 18, descriptorIndex := 19, attributes := #[] }, { accessFlags := 10, nameIndex := 22, descriptorIndex := 23, attributes := #[] }] 49 2 #[] #[])
  fields := #[]
  methods := #[k1m0, k1m1, k1m2, k1m3]
  instanceTypes := #[]
  staticTypes := #[]
  resolved := Array.replicate 39 none
  statics := none }

def pool2 : Array CpInfo := pool [(2, .class_ 4), (1, u "java/lang/Object"), (0, u "<init>"), (0, u "()V"), (1, .class_ 10), (1, u "com/example/attestry/attestry/ParticipantNames"), (0, u "bytes"), (0, u "[B"), (2, u "ends"), (0, u "[I"), (2, u "table"), (0, u "[J"), (2, u "count"), (0, u "I"), (2, u "key"), (0, u "([BII)J"), (6, u "expected"), (0, u "J"), (71, .long 31), (1, .long 18374686479671623680), (1, .long 72057594037927935), (5, u "SHORT_NAME"), (2, u "LONG_NAME"), (0, u "MAX_LOAD_SHIFT")] 28

def k2m0 : Method := { name := "<init>", desc := "()V", sig := { parameters := [], returnType := none }, accessFlags := 0, code := none }
def k2c1 : Code := { maxStack := 6, maxLocals := 6, code := prog_33_method_14_code, exceptionTable := #[], attributes := #[] }
def k2m1 : Method := { name := "key", desc := "([BII)J", sig := { parameters := [(.array .byte), .int, .int], returnType := some .long }, accessFlags := 8, code := some k2c1 }
/-- com/example/attestry/attestry/ParticipantNames -/
def k2 : Class := { plain "com/example/attestry/attestry/ParticipantNames" (some 0) with
  accessFlags := 48
  interfaces := #[]
  cf := some (fileOf pool2 8 #[] #[{ accessFlags := 0, nameIndex := 5, descriptorIndex := 6, attributes := #[] }, { accessFlags := 8, nameIndex := 27, descriptorIndex := 28, attributes := #[] }] 48 2 #[] #[{ accessFlags := 26, nameIndex := 118, descriptorIndex := 24, attributes := #[] }, { accessFlags := 26, nameIndex := 121, descriptorIndex := 36, attributes := #[] }, { accessFlags := 26, nameIndex := 122, descriptorIndex := 24, attributes := #[] }, { accessFlags := 2, nameIndex := 11, descriptorIndex := 12, attributes := #[] }, { accessFlags := 2, nameIndex := 15, descriptorIndex := 16, attributes := #[] }, { accessFlags := 2, nameIndex := 23, descriptorIndex := 24, attributes := #[] }, { accessFlags := 2, nameIndex := 19, descriptorIndex := 20, attributes := #[] }, { accessFlags := 2, nameIndex := 35, descriptorIndex := 36, attributes := #[] }])
  fields := #[{ name := "SHORT_NAME", type := .int, accessFlags := 26, slot := 0, constantValue := 0 }, { name := "LONG_NAME", type := .long, accessFlags := 26, slot := 1, constantValue := 0 }, { name := "MAX_LOAD_SHIFT", type := .int, accessFlags := 26, slot := 2, constantValue := 0 }, { name := "bytes", type := (.array .byte), accessFlags := 2, slot := 0, constantValue := 0 }, { name := "ends", type := (.array .int), accessFlags := 2, slot := 1, constantValue := 0 }, { name := "count", type := .int, accessFlags := 2, slot := 2, constantValue := 0 }, { name := "table", type := (.array .long), accessFlags := 2, slot := 3, constantValue := 0 }, { name := "expected", type := .long, accessFlags := 2, slot := 4, constantValue := 0 }]
  methods := #[k2m0, k2m1]
  instanceTypes := #[(.array .byte), (.array .int), .int, (.array .long), .long]
  staticTypes := #[.int, .long, .int]
  resolved := Array.replicate 151 none
  statics := none }

def pool3 : Array CpInfo := pool [(1, u "java/lang/Cloneable"), (0, .class_ 1), (0, u "java/lang/Object"), (0, .class_ 3)] 3

/-- java/lang/Cloneable -/
def k3 : Class := { plain "java/lang/Cloneable" (some 0) with
  accessFlags := 1537
  interfaces := #[]
  cf := some (fileOf pool3 2 #[] #[] 1537 4 #[] #[])
  fields := #[]
  methods := #[]
  instanceTypes := #[]
  staticTypes := #[]
  resolved := Array.replicate 8 none
  statics := none }

def pool4 : Array CpInfo := pool [(1, u "java/io/Serializable"), (0, .class_ 1), (0, u "java/lang/Object"), (0, .class_ 3)] 3

/-- java/io/Serializable -/
def k4 : Class := { plain "java/io/Serializable" (some 0) with
  accessFlags := 1537
  interfaces := #[]
  cf := some (fileOf pool4 2 #[] #[] 1537 4 #[] #[])
  fields := #[]
  methods := #[]
  instanceTypes := #[]
  staticTypes := #[]
  resolved := Array.replicate 8 none
  statics := none }

/-- the primitive byte -/
def k5 : Class := { plain "byte" none with kind := .primitive 'B', accessFlags := 0x411 }
/-- [B -/
def k6 : Class := { plain "[B" (some 0) with kind := .array 5 .byte, interfaces := #[3, 4], accessFlags := 1041 }

/-- the primitive int -/
def k7 : Class := { plain "int" none with kind := .primitive 'I', accessFlags := 0x411 }
/-- [I -/
def k8 : Class := { plain "[I" (some 0) with kind := .array 7 .int, interfaces := #[3, 4], accessFlags := 1041 }

def heap : Heap := #[]
def classes : Array Class := #[k0, k1, k2, k3, k4, k5, k6, k7, k8]
def interned : List (Array UInt16 × Addr) := []
def slotsUsed : Nat := 0
def theMethod : MethodId := ⟨1, 1⟩
def args0 : Array Value := #[.long 5, .long 9, .int 7, .int 0]
def aboutOver (below : List Frame) : State where
  vm := { classes := classes, interned := interned.toArray }
  heap := heap
  slotsUsed := slotsUsed
  threads := #[{ frames := .invoking theMethod args0 :: below }]
def below0 : List Frame := [.native { method := ⟨0, 0⟩, args := #[] }]
def about1 : State := aboutOver below0
def p0 : Program := .bare "" "" ""
def e0 : Env := launch0.env 0 0 0
theorem w_frames : about1.frames = Frame.invoking theMethod args0 :: below0 := rfl
set_option maxRecDepth 65536 in
theorem w_args : argsFit about1.vm theMethod args0 = true := by decide +kernel
set_option maxRecDepth 65536 in
theorem w_heap : heapFits about1 = true := by decide +kernel
set_option maxRecDepth 65536 in
theorem w_runnable : about1.curStatus? = some .runnable := by decide +kernel
set_option maxRecDepth 65536 in
theorem w_alone : about1.alone = true := by decide +kernel
set_option maxRecDepth 65536 in
theorem w_named : about1.methodNamed? x = some theMethod := by decide +kernel
set_option maxRecDepth 65536 in
theorem w_hears : about1.hears theMethod below0 = true := by decide +kernel
set_option maxRecDepth 65536 in
theorem w_ripe : about1.ripe theMethod args0 below0 = true := by decide +kernel
theorem w_running : about1.status = .running := rfl
set_option maxRecDepth 65536 in
theorem w_room : about1.hasRoom e0.platform room_1 = true :=
  launch0.hasRoom_least _ room_1 (by decide +kernel) (by decide +kernel) (by decide +kernel) (by decide +kernel) (by decide +kernel) (by decide +kernel)
theorem allAtoms_all (ts : List Jvm.Cond) (a : Array Jvm.Value) (st : Jvm.State) : (allAtoms ts).before a st = ts.all (fun c => c.before a st) := by
  induction ts with
  | nil => rfl
  | cons c t ih =>
    show (Jvm.Cond.and c (allAtoms t)).before a st = _
    rw [Jvm.Cond.before_and, ih, List.all_cons]
def words1 : List Jvm.Cond := Jvm.Cond.code x code maxLocals ret :: tables_1
/-- a 'code' word, met by the world's own term for the bytes: nothing is compared byte by byte -/
theorem code_word {y : MethodName} {bytes : ByteArray} {mx : Nat} {rt : Option FieldType} {a : Array Value} {s : State} {m : MethodId} {meth : Method} {c : Code} (h1 : s.methodNamed? y = some m) (h2 : s.vm.method? m = some meth) (h3 : meth.code = some c) (h4 : c.code = bytes)
    (h5 : (c.maxLocals == mx && c.exceptionTable.isEmpty && decide (c.maxStack ≤ mostOperands) && decide (meth.sig.returnType = rt) && !meth.locks && decide (parseMethodDescriptor y.desc = some meth.sig)) = true) : (Jvm.Cond.code y bytes mx rt).before a s = true := by
  simp only [Bool.and_eq_true, beq_iff_eq, Bool.not_eq_true', decide_eq_true_eq] at h5
  obtain ⟨⟨⟨⟨⟨g1, g2⟩, g3⟩, g4⟩, g5⟩, g6⟩ := h5
  simp [Cond.before, Cond.holds, Cond.value, h1, h2, h3, h4, g1, g2, g3, g4, g5, g6]
def isCode : Jvm.Cond → Bool
  | .code _ _ _ _ => true
  | _ => false
theorem all_split {L : List Jvm.Cond} {P : Jvm.Cond → Bool} (h1 : L.all (fun c => isCode c || P c) = true) (h2 : ∀ c ∈ L.filter isCode, P c = true) : L.all P = true := by
  refine List.all_eq_true.mpr fun c hc => ?_
  have h := List.all_eq_true.mp h1 c hc
  rcases Bool.eq_false_or_eq_true (isCode c) with hi | hi
  · exact h2 c (List.mem_filter.mpr ⟨hc, hi⟩)
  · simpa [hi] using h
set_option maxRecDepth 65536 in
theorem w_c0 : (Jvm.Cond.code x code maxLocals ret).before args0 about1 = true := code_word (m := ⟨1, 1⟩) (meth := k1m1) (c := k1c1) (by decide +kernel) rfl rfl rfl (by decide +kernel)
set_option maxRecDepth 65536 in
theorem w_c1 : (Jvm.Cond.code ({ cls := "com/example/attestry/attestry/ParticipantNames", name := "key", desc := "([BII)J" } : Jvm.MethodName) prog_33_method_14_code (6 : Nat) (Option.some Jvm.ClassFile.FieldType.long)).before args0 about1 = true := code_word (m := ⟨2, 1⟩) (meth := k2m1) (c := k2c1) (by decide +kernel) rfl rfl rfl (by decide +kernel)
set_option maxRecDepth 65536 in
theorem w_c2 : (Jvm.Cond.code ({ cls := "com/example/attestry/attestry/ParticipantNamesKeyPinLaw", name := "part", desc := "([BIII)J" } : Jvm.MethodName) method_3_code (4 : Nat) (Option.some Jvm.ClassFile.FieldType.long)).before args0 about1 = true := code_word (m := ⟨1, 2⟩) (meth := k1m2) (c := k1c2) (by decide +kernel) rfl rfl rfl (by decide +kernel)
set_option maxRecDepth 65536 in
theorem w_c3 : (Jvm.Cond.code ({ cls := "com/example/attestry/attestry/ParticipantNamesKeyPinLaw", name := "step", desc := "(J[BIII)J" } : Jvm.MethodName) method_4_code (6 : Nat) (Option.some Jvm.ClassFile.FieldType.long)).before args0 about1 = true := code_word (m := ⟨1, 3⟩) (meth := k1m3) (c := k1c3) (by decide +kernel) rfl rfl rfl (by decide +kernel)
def codes1 : List Jvm.Cond := [Jvm.Cond.code x code maxLocals ret, Jvm.Cond.code ({ cls := "com/example/attestry/attestry/ParticipantNames", name := "key", desc := "([BII)J" } : Jvm.MethodName) prog_33_method_14_code (6 : Nat) (Option.some Jvm.ClassFile.FieldType.long), Jvm.Cond.code ({ cls := "com/example/attestry/attestry/ParticipantNamesKeyPinLaw", name := "part", desc := "([BIII)J" } : Jvm.MethodName) method_3_code (4 : Nat) (Option.some Jvm.ClassFile.FieldType.long), Jvm.Cond.code ({ cls := "com/example/attestry/attestry/ParticipantNamesKeyPinLaw", name := "step", desc := "(J[BIII)J" } : Jvm.MethodName) method_4_code (6 : Nat) (Option.some Jvm.ClassFile.FieldType.long)]
set_option maxRecDepth 65536 in
theorem codes_eq : words1.filter isCode = codes1 := rfl
theorem w_codes : ∀ c ∈ words1.filter isCode, c.before args0 about1 = true := by
  rw [codes_eq]
  intro c hc
  simp only [codes1, List.mem_cons, List.not_mem_nil, or_false] at hc
  rcases hc with rfl | rfl | rfl | rfl
  · exact w_c0
  · exact w_c1
  · exact w_c2
  · exact w_c3
set_option maxRecDepth 65536 in
theorem w_t1 : words1.all (fun c => isCode c || c.before args0 about1) = true := by decide +kernel
theorem w_tables : (allAtoms (Jvm.Cond.code x code maxLocals ret :: tables_1)).before args0 about1 = true := by
  rw [allAtoms_all]
  show words1.all (fun c => c.before args0 about1) = true
  refine all_split ?_ w_codes
  rw [w_t1]
set_option maxRecDepth 65536 in
theorem w_case : (Jvm.Cond.and given_1 narrow_1).before args0 about1 = true := by decide +kernel
theorem w_applies : (headSpec (Jvm.Cond.code x code maxLocals ret :: tables_1) room_1).applies x e0.platform about1 = true :=
  (Spec.applies_iff w_frames).mpr ⟨w_running, w_runnable, w_alone, w_named, w_hears, w_ripe, w_room, w_tables⟩
theorem atStart : AtStart classFile x code maxLocals ret World_1 tables_1 room_1 Calls_1 rest_1 Pre_1 launch0 p0 e0 about1 theMethod args0 below0 :=
  ⟨lists_1, trivial, launch0.admits_env _ _ _, launch0.least_env, fairChoices_fair.cas, fairChoices_fair.clock, w_frames, w_args, w_heap, w_applies, trivial, trivial, w_case⟩
end start1
theorem witness_1 : WitnessClaimed_1 := ⟨start1.p0, start1.e0, start1.about1, start1.theMethod, start1.args0, start1.below0, start1.atStart⟩
end Jvm.Pilot.@@N@@

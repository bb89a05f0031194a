import JvmDerived
import JvmDerived.Pilot.@@N@@Statement
import JvmDerived.Pilot.@@N@@Code
set_option linter.unusedVariables false
set_option linter.unusedSimpArgs false
@@BLOCK:NumsL.lean.txt@@
namespace Jvm.RoadKit
open Sem ClassFile Op Lib Jvm.Stand Jvm.Free Jvm.LawKit
section New
variable {p : Program} {l : Launch} {e : Env} {R : Room} {s : State} {m : MethodId} {args : Array Value} {below : List Frame} {meth : Method} {c : Code} {T : State} {locs : List Loc} {cells slots : Nat}
theorem retI (X : Stand p l e R s m args below meth c T locs cells slots) (hx : p.tables.exec = Jvm.exec) {pc : Nat} {Ls : Array Slot} {z : Int32} {rest : List Value} (hret : meth.sig.returnType = some .int) (hd : decode c.code pc = .ok (.ireturn, 1)) {fs : List Frame}
    (hl : ∀ (f : JFrame) (acts : List Action), f.method = m → f.locked = none → f.entered = [] → (doReturn e (T.setTop f) acts (some (.int z))).1 = T.setFrames fs) : Steps p.tables e below (T.setTop (mkF m pc Ls (.int z :: rest))) (T.setFrames fs) := by
  have hm' : T.vm.method? m = some meth := X.method'
  have hn : narrow .int (.int z) = .int z := rfl
  show Steps p.tables e below (T.setTop { method := m, pc := pc, locals := Ls, stack := _ :: rest, locked := none }) _
  jvm_step X.here [X.here.top, hx, hd, hm', hret, hn]
  first | (intro acts; rw [hl _ acts rfl rfl rfl]) | rw [hl _ _ rfl rfl rfl]
  exact Steps.refl _
end New
end Jvm.RoadKit
namespace Jvm.Pilot.@@N@@
open Jvm Jvm.ClassFile Sem Op Lib Jvm.Free Jvm.Stand Jvm.LawKit Jvm.RoadKit Bundle Jvm.Pilot.@@N@@.Jvm.D
theorem d2_0 : decode prog_39_method_2_code 0 = .ok (.iload_n 0, 1) := by decide +kernel
theorem d2_1 : decode prog_39_method_2_code 1 = .ok (.iconst 5, 1) := by decide +kernel
theorem d2_2 : decode prog_39_method_2_code 2 = .ok (.iushr, 1) := by decide +kernel
theorem d2_3 : decode prog_39_method_2_code 3 = .ok (.ireturn, 1) := by decide +kernel
theorem pn_2 : plainName "com/example/pertinet/pertinet/explore/State" = true := by first | (simp [plainName, overriddenIn]; done) | decide +kernel
theorem pd_0 : parseMethodDescriptor "([II)V" = some ⟨[(.array .int), .int], none⟩ := by decide +kernel
theorem pd_1 : parseMethodDescriptor "(I)I" = some ⟨[.int], some .int⟩ := by decide +kernel
theorem pd_2 : parseMethodDescriptor "(IZI)I" = some ⟨[.int, .boolean, .int], some .int⟩ := by decide +kernel
theorem ef_2 (m : MethodId) (x0 : Int32) : entryFrame m #[(.int x0)] 1 = mkF m 0 #[.val (.int x0)] [] := by first | (simp [entryFrame, mkF, argsToLocals, Value.category]; done) | rfl
def f2 (p0 : Int32) : Int32 := ((p0.toUInt32 >>> ((5 : Int32) &&& 31).toUInt32).toInt32)
def Q2 (p0 : Int32) (h0 : Heap) (n0 : Nat) (v : Option Value) (h : Heap) (L : List Loc) : Prop := v = some (.int (f2 p0)) ∧ Fr n0 L ∧ h = h0
set_option maxRecDepth 65536 in
set_option maxHeartbeats 40000000 in
theorem rm2 (l : Launch) (Z : State) (aZ : Array Value) (hw : ∀ d ∈ tables_1, d.before aZ Z = true) (ws : List Jvm.Cond) (p0 : Int32)  (h0 : Heap) (n0 : Nat) (Z0 : n0 ≤ h0.size)  :
    MetFree l (⟨"com/example/pertinet/pertinet/explore/State", "cellOf", "(I)I"⟩ : MethodName) (head1 (Jvm.Cond.code (⟨"com/example/pertinet/pertinet/explore/State", "cellOf", "(I)I"⟩ : MethodName) prog_39_method_2_code 1 (some .int) :: ws) ({ frames := 0, cells := 0, slots := 0, locals := 0 } : Room)) (fun a U => a = #[(.int p0)] ∧ Z.Warmed39 U.vm ∧ U.heap = h0) (fun _ _ _ _ _ => True) (fun _ U o U' => ∃ v L, o = .returned v ∧ Q2 p0 h0 n0 v U'.heap L ∧ FrameEnd U o U' L ({ frames := 0, cells := 0, slots := 0, locals := 0 } : Room).cells ({ frames := 0, cells := 0, slots := 0, locals := 0 } : Room).slots) := by
  refine MetFree.of_bodySF (plainFor_of_name pn_2) hisR ?_
  intro p e s m args below meth c s₁ Bd hml0 hP hK
  obtain ⟨rfl, hZ, hh⟩ := hP
  have hx := Bd.exec
  have hby := Bd.bytes
  have hml : c.maxLocals = 1 := hml0
  have hown : s.vm.findClass "com/example/pertinet/pertinet/explore/State" = some m.cls := findClass_of_methodNamed Bd.named
  have hnm := (name_of_methodNamed Bd.named Bd.method).1
  have X0 : Stand p l e ({ frames := 0, cells := 0, slots := 0, locals := 0 } : Room) s m #[(.int p0)] below meth c s₁ [] 0 0 := Stand.of_body Bd
  have e0 : s₁.heap = h0 := by rw [← hh, Bd.state]; rfl
  have N0 := Fr.nil n0
  have pre0 : ∀ t, Steps p.tables e below (s₁.setTop (mkF m 0 #[.val (.int p0)] [])) t → Steps p.tables e below (s₁.setTop (entryFrame m #[(.int p0)] 1)) t := fun t k => castTop (ef_2 m p0) k
  obtain ⟨fs, hr, hrun, hended, hW, hsame⟩ := X0.leave (v := some (.int (f2 p0))) (fun h => by rw [Bd.returns] at h; cases h)
  refine ⟨_, _, pre0 _ ?_, hrun, hended, _, _, rfl, ?_, ⟨_, rfl⟩, hW, hsame.mono (by decide) (by decide)⟩
  · show Steps p.tables e below (s₁.setTop (mkF m 0 #[.val (.int p0)] [])) _
    refine XS.iloadN X0.here hx rfl (hb hby d2_0) rfl ?_
    show Steps p.tables e below (s₁.setTop (mkF m 1 #[.val (.int p0)] [(.int p0)])) _
    refine XS.iconst X0.here hx rfl (hb hby d2_1) ?_
    show Steps p.tables e below (s₁.setTop (mkF m 2 #[.val (.int p0)] [(.int (5 : Int32)), (.int p0)])) _
    refine XS.iushr X0.here hx rfl (hb hby d2_2) rfl ?_
    show Steps p.tables e below (s₁.setTop (mkF m 3 #[.val (.int p0)] [(.int ((p0.toUInt32 >>> ((5 : Int32) &&& 31).toUInt32).toInt32))])) _
    have hv : f2 p0 = ((p0.toUInt32 >>> ((5 : Int32) &&& 31).toUInt32).toInt32) := by unfold f2; rfl
    rw [hv] at hr
    exact retI X0 hx Bd.returns (hb hby d2_3) hr
  · show Q2 p0 h0 n0 _ s₁.heap _
    rw [e0]
    exact ⟨rfl, N0, rfl⟩
theorem d3_0 : decode method_3_code 0 = .ok (.iload_n 1, 1) := by decide +kernel
theorem d3_1 : decode method_3_code 1 = .ok (.ifCond .ne 5, 3) := by decide +kernel
theorem d3_4 : decode method_3_code 4 = .ok (.iload_n 0, 1) := by decide +kernel
theorem d3_5 : decode method_3_code 5 = .ok (.ireturn, 1) := by decide +kernel
theorem d3_6 : decode method_3_code 6 = .ok (.iconst 1, 1) := by decide +kernel
theorem d3_7 : decode method_3_code 7 = .ok (.iload_n 2, 1) := by decide +kernel
theorem d3_8 : decode method_3_code 8 = .ok (.ishl, 1) := by decide +kernel
theorem d3_9 : decode method_3_code 9 = .ok (.istore_n 3, 1) := by decide +kernel
theorem d3_10 : decode method_3_code 10 = .ok (.iload_n 0, 1) := by decide +kernel
theorem d3_11 : decode method_3_code 11 = .ok (.iload_n 2, 1) := by decide +kernel
theorem d3_12 : decode method_3_code 12 = .ok (.iushr, 1) := by decide +kernel
theorem d3_13 : decode method_3_code 13 = .ok (.iconst 1, 1) := by decide +kernel
theorem d3_14 : decode method_3_code 14 = .ok (.iand, 1) := by decide +kernel
theorem d3_15 : decode method_3_code 15 = .ok (.iconst 1, 1) := by decide +kernel
theorem d3_16 : decode method_3_code 16 = .ok (.if_icmp .ne 7, 3) := by decide +kernel
theorem d3_19 : decode method_3_code 19 = .ok (.iload_n 0, 1) := by decide +kernel
theorem d3_20 : decode method_3_code 20 = .ok (.iload_n 3, 1) := by decide +kernel
theorem d3_21 : decode method_3_code 21 = .ok (.isub, 1) := by decide +kernel
theorem d3_22 : decode method_3_code 22 = .ok (.ireturn, 1) := by decide +kernel
theorem d3_23 : decode method_3_code 23 = .ok (.iload_n 0, 1) := by decide +kernel
theorem d3_24 : decode method_3_code 24 = .ok (.ireturn, 1) := by decide +kernel
theorem pn_3 : plainName "com/example/pertinet/pertinet/explore/StateDeactivatePinLaw" = true := by first | (simp [plainName, overriddenIn]; done) | decide +kernel
theorem ef_3 (m : MethodId) (x0 : Int32) (x1 : Int32) (x2 : Int32) : entryFrame m #[(.int x0), (.int x1), (.int x2)] 4 = mkF m 0 #[.val (.int x0), .val (.int x1), .val (.int x2), .unset] [] := by first | (simp [entryFrame, mkF, argsToLocals, Value.category]; done) | rfl
def f3 (p0 : Int32) (p1 : Int32) (p2 : Int32) : Int32 := if p1 = (0 : Int32) then p0 else if (((p0.toUInt32 >>> (p2 &&& 31).toUInt32).toInt32) &&& (1 : Int32)) = (1 : Int32) then (p0 - ((1 : Int32) <<< (p2 &&& 31))) else p0
def Q3 (p0 : Int32) (p1 : Int32) (p2 : Int32) (h0 : Heap) (n0 : Nat) (v : Option Value) (h : Heap) (L : List Loc) : Prop := v = some (.int (f3 p0 p1 p2)) ∧ Fr n0 L ∧ h = h0
set_option maxRecDepth 65536 in
set_option maxHeartbeats 40000000 in
theorem rm3 (l : Launch) (Z : State) (aZ : Array Value) (hw : ∀ d ∈ tables_1, d.before aZ Z = true) (ws : List Jvm.Cond) (p0 : Int32) (p1 : Int32) (p2 : Int32)  (h0 : Heap) (n0 : Nat) (Z0 : n0 ≤ h0.size)  :
    MetFree l (⟨"com/example/pertinet/pertinet/explore/StateDeactivatePinLaw", "expect", "(IZI)I"⟩ : MethodName) (head1 (Jvm.Cond.code (⟨"com/example/pertinet/pertinet/explore/StateDeactivatePinLaw", "expect", "(IZI)I"⟩ : MethodName) method_3_code 4 (some .int) :: ws) ({ frames := 0, cells := 0, slots := 0, locals := 0 } : Room)) (fun a U => a = #[(.int p0), (.int p1), (.int p2)] ∧ Z.Warmed39 U.vm ∧ U.heap = h0) (fun _ _ _ _ _ => True) (fun _ U o U' => ∃ v L, o = .returned v ∧ Q3 p0 p1 p2 h0 n0 v U'.heap L ∧ FrameEnd U o U' L ({ frames := 0, cells := 0, slots := 0, locals := 0 } : Room).cells ({ frames := 0, cells := 0, slots := 0, locals := 0 } : Room).slots) := by
  refine MetFree.of_bodySF (plainFor_of_name pn_3) hisR ?_
  intro p e s m args below meth c s₁ Bd hml0 hP hK
  obtain ⟨rfl, hZ, hh⟩ := hP
  have hx := Bd.exec
  have hby := Bd.bytes
  have hml : c.maxLocals = 4 := hml0
  have hown : s.vm.findClass "com/example/pertinet/pertinet/explore/StateDeactivatePinLaw" = some m.cls := findClass_of_methodNamed Bd.named
  have hnm := (name_of_methodNamed Bd.named Bd.method).1
  have X0 : Stand p l e ({ frames := 0, cells := 0, slots := 0, locals := 0 } : Room) s m #[(.int p0), (.int p1), (.int p2)] below meth c s₁ [] 0 0 := Stand.of_body Bd
  have e0 : s₁.heap = h0 := by rw [← hh, Bd.state]; rfl
  have N0 := Fr.nil n0
  have pre0 : ∀ t, Steps p.tables e below (s₁.setTop (mkF m 0 #[.val (.int p0), .val (.int p1), .val (.int p2), .unset] [])) t → Steps p.tables e below (s₁.setTop (entryFrame m #[(.int p0), (.int p1), (.int p2)] 4)) t := fun t k => castTop (ef_3 m p0 p1 p2) k
  obtain ⟨fs, hr, hrun, hended, hW, hsame⟩ := X0.leave (v := some (.int (f3 p0 p1 p2))) (fun h => by rw [Bd.returns] at h; cases h)
  refine ⟨_, _, pre0 _ ?_, hrun, hended, _, _, rfl, ?_, ⟨_, rfl⟩, hW, hsame.mono (by decide) (by decide)⟩
  · show Steps p.tables e below (s₁.setTop (mkF m 0 #[.val (.int p0), .val (.int p1), .val (.int p2), .unset] [])) _
    refine XS.iloadN X0.here hx rfl (hb hby d3_0) rfl ?_
    show Steps p.tables e below (s₁.setTop (mkF m 1 #[.val (.int p0), .val (.int p1), .val (.int p2), .unset] [(.int p1)])) _
    by_cases c3 : p1 = (0 : Int32)
    · refine XS.ifNo X0.here hx rfl (hb hby d3_1) rfl ((if0 _ _).trans (teq c3).2) ?_
      show Steps p.tables e below (s₁.setTop (mkF m 4 #[.val (.int p0), .val (.int p1), .val (.int p2), .unset] [])) _
      refine XS.iloadN X0.here hx rfl (hb hby d3_4) rfl ?_
      show Steps p.tables e below (s₁.setTop (mkF m 5 #[.val (.int p0), .val (.int p1), .val (.int p2), .unset] [(.int p0)])) _
      have hv : f3 p0 p1 p2 = p0 := by unfold f3; rw [if_pos c3]
      rw [hv] at hr
      exact retI X0 hx Bd.returns (hb hby d3_5) hr
    · refine XS.ifYes X0.here hx rfl (pc0 := 1) (pc' := 6) rfl (hb hby d3_1) rfl ((if0 _ _).trans (feq c3).2) (by decide) (by decide) ?_
      show Steps p.tables e below (s₁.setTop (mkF m 6 #[.val (.int p0), .val (.int p1), .val (.int p2), .unset] [])) _
      refine XS.iconst X0.here hx rfl (hb hby d3_6) ?_
      show Steps p.tables e below (s₁.setTop (mkF m 7 #[.val (.int p0), .val (.int p1), .val (.int p2), .unset] [(.int (1 : Int32))])) _
      refine XS.iloadN X0.here hx rfl (hb hby d3_7) rfl ?_
      show Steps p.tables e below (s₁.setTop (mkF m 8 #[.val (.int p0), .val (.int p1), .val (.int p2), .unset] [(.int p2), (.int (1 : Int32))])) _
      refine XS.ishl X0.here hx rfl (hb hby d3_8) rfl ?_
      show Steps p.tables e below (s₁.setTop (mkF m 9 #[.val (.int p0), .val (.int p1), .val (.int p2), .unset] [(.int ((1 : Int32) <<< (p2 &&& 31)))])) _
      refine XS.istoreN X0.here hx rfl (hb hby d3_9) rfl (l' := #[.val (.int p0), .val (.int p1), .val (.int p2), .val (.int ((1 : Int32) <<< (p2 &&& 31)))]) rfl ?_
      show Steps p.tables e below (s₁.setTop (mkF m 10 #[.val (.int p0), .val (.int p1), .val (.int p2), .val (.int ((1 : Int32) <<< (p2 &&& 31)))] [])) _
      refine XS.iloadN X0.here hx rfl (hb hby d3_10) rfl ?_
      show Steps p.tables e below (s₁.setTop (mkF m 11 #[.val (.int p0), .val (.int p1), .val (.int p2), .val (.int ((1 : Int32) <<< (p2 &&& 31)))] [(.int p0)])) _
      refine XS.iloadN X0.here hx rfl (hb hby d3_11) rfl ?_
      show Steps p.tables e below (s₁.setTop (mkF m 12 #[.val (.int p0), .val (.int p1), .val (.int p2), .val (.int ((1 : Int32) <<< (p2 &&& 31)))] [(.int p2), (.int p0)])) _
      refine XS.iushr X0.here hx rfl (hb hby d3_12) rfl ?_
      show Steps p.tables e below (s₁.setTop (mkF m 13 #[.val (.int p0), .val (.int p1), .val (.int p2), .val (.int ((1 : Int32) <<< (p2 &&& 31)))] [(.int ((p0.toUInt32 >>> (p2 &&& 31).toUInt32).toInt32))])) _
      refine XS.iconst X0.here hx rfl (hb hby d3_13) ?_
      show Steps p.tables e below (s₁.setTop (mkF m 14 #[.val (.int p0), .val (.int p1), .val (.int p2), .val (.int ((1 : Int32) <<< (p2 &&& 31)))] [(.int (1 : Int32)), (.int ((p0.toUInt32 >>> (p2 &&& 31).toUInt32).toInt32))])) _
      refine XS.iand X0.here hx rfl (hb hby d3_14) rfl ?_
      show Steps p.tables e below (s₁.setTop (mkF m 15 #[.val (.int p0), .val (.int p1), .val (.int p2), .val (.int ((1 : Int32) <<< (p2 &&& 31)))] [(.int (((p0.toUInt32 >>> (p2 &&& 31).toUInt32).toInt32) &&& (1 : Int32)))])) _
      refine XS.iconst X0.here hx rfl (hb hby d3_15) ?_
      show Steps p.tables e below (s₁.setTop (mkF m 16 #[.val (.int p0), .val (.int p1), .val (.int p2), .val (.int ((1 : Int32) <<< (p2 &&& 31)))] [(.int (1 : Int32)), (.int (((p0.toUInt32 >>> (p2 &&& 31).toUInt32).toInt32) &&& (1 : Int32)))])) _
      by_cases c4 : (((p0.toUInt32 >>> (p2 &&& 31).toUInt32).toInt32) &&& (1 : Int32)) = (1 : Int32)
      · refine XS.icmpNo X0.here hx rfl (hb hby d3_16) rfl (teq c4).2 ?_
        show Steps p.tables e below (s₁.setTop (mkF m 19 #[.val (.int p0), .val (.int p1), .val (.int p2), .val (.int ((1 : Int32) <<< (p2 &&& 31)))] [])) _
        refine XS.iloadN X0.here hx rfl (hb hby d3_19) rfl ?_
        show Steps p.tables e below (s₁.setTop (mkF m 20 #[.val (.int p0), .val (.int p1), .val (.int p2), .val (.int ((1 : Int32) <<< (p2 &&& 31)))] [(.int p0)])) _
        refine XS.iloadN X0.here hx rfl (hb hby d3_20) rfl ?_
        show Steps p.tables e below (s₁.setTop (mkF m 21 #[.val (.int p0), .val (.int p1), .val (.int p2), .val (.int ((1 : Int32) <<< (p2 &&& 31)))] [(.int ((1 : Int32) <<< (p2 &&& 31))), (.int p0)])) _
        refine XS.isub X0.here hx rfl (hb hby d3_21) rfl ?_
        show Steps p.tables e below (s₁.setTop (mkF m 22 #[.val (.int p0), .val (.int p1), .val (.int p2), .val (.int ((1 : Int32) <<< (p2 &&& 31)))] [(.int (p0 - ((1 : Int32) <<< (p2 &&& 31))))])) _
        have hv : f3 p0 p1 p2 = (p0 - ((1 : Int32) <<< (p2 &&& 31))) := by unfold f3; rw [if_neg c3, if_pos c4]
        rw [hv] at hr
        exact retI X0 hx Bd.returns (hb hby d3_22) hr
      · refine XS.icmpYes X0.here hx rfl (pc0 := 16) (pc' := 23) rfl (hb hby d3_16) rfl (feq c4).2 (by decide) (by decide) ?_
        show Steps p.tables e below (s₁.setTop (mkF m 23 #[.val (.int p0), .val (.int p1), .val (.int p2), .val (.int ((1 : Int32) <<< (p2 &&& 31)))] [])) _
        refine XS.iloadN X0.here hx rfl (hb hby d3_23) rfl ?_
        show Steps p.tables e below (s₁.setTop (mkF m 24 #[.val (.int p0), .val (.int p1), .val (.int p2), .val (.int ((1 : Int32) <<< (p2 &&& 31)))] [(.int p0)])) _
        have hv : f3 p0 p1 p2 = p0 := by unfold f3; rw [if_neg c3, if_neg c4]
        rw [hv] at hr
        exact retI X0 hx Bd.returns (hb hby d3_24) hr
  · show Q3 p0 p1 p2 h0 n0 _ s₁.heap _
    rw [e0]
    exact ⟨rfl, N0, rfl⟩
def own_off (c b : Int32) : Int32 := c &&& (((1 : Int32) <<< ((b &&& (31 : Int32)) &&& 31)) ^^^ (-1 : Int32))
theorem d1_0 : decode prog_39_method_7_code 0 = .ok (.aload_n 0, 1) := by decide +kernel
theorem d1_1 : decode prog_39_method_7_code 1 = .ok (.iload_n 1, 1) := by decide +kernel
theorem d1_2 : decode prog_39_method_7_code 2 = .ok (.invokestatic 7, 3) := by decide +kernel
theorem d1_5 : decode prog_39_method_7_code 5 = .ok (.dup2, 1) := by decide +kernel
theorem d1_6 : decode prog_39_method_7_code 6 = .ok (.iaload, 1) := by decide +kernel
theorem d1_7 : decode prog_39_method_7_code 7 = .ok (.iconst 1, 1) := by decide +kernel
theorem d1_8 : decode prog_39_method_7_code 8 = .ok (.iload_n 1, 1) := by decide +kernel
theorem d1_9 : decode prog_39_method_7_code 9 = .ok (.bipush 31, 2) := by decide +kernel
theorem d1_11 : decode prog_39_method_7_code 11 = .ok (.iand, 1) := by decide +kernel
theorem d1_12 : decode prog_39_method_7_code 12 = .ok (.ishl, 1) := by decide +kernel
theorem d1_13 : decode prog_39_method_7_code 13 = .ok (.iconst (-1), 1) := by decide +kernel
theorem d1_14 : decode prog_39_method_7_code 14 = .ok (.ixor, 1) := by decide +kernel
theorem d1_15 : decode prog_39_method_7_code 15 = .ok (.iand, 1) := by decide +kernel
theorem d1_16 : decode prog_39_method_7_code 16 = .ok (.iastore, 1) := by decide +kernel
theorem d1_17 : decode prog_39_method_7_code 17 = .ok (.return_, 1) := by decide +kernel
theorem ef_1 (m : MethodId) (x0 : Addr) (x1 : Int32) : entryFrame m #[(.ref x0), (.int x1)] 2 = mkF m 0 #[.val (.ref x0), .val (.int x1)] [] := by first | (simp [entryFrame, mkF, argsToLocals, Value.category]; done) | rfl
def Q1_0 (Z : State) (a0 : Addr) (p1 : Int32) (kw : ClassId) (v0 v1 v2 : Int32) (h0 : Heap) (n0 : Nat) (v : Option Value) (h : Heap) (L : List Loc) : Prop := v = none ∧ Fr n0 L ∧ Keep h0 h [a0] ∧ Arv Z h a0 kw .int (3 : Int32) [(.int (own_off v0 p1)), (.int v1), (.int v2)] (.int (0 : Int32))
set_option maxRecDepth 65536 in
set_option maxHeartbeats 40000000 in
theorem rm1_0 (l : Launch) (Z : State) (aZ : Array Value) (hw : ∀ d ∈ tables_1, d.before aZ Z = true) (ws : List Jvm.Cond) (a0 : Addr) (p1 : Int32) (kw : ClassId) (v0 v1 v2 : Int32) (h0 : Heap) (n0 : Nat) (Z0 : n0 ≤ h0.size) (V_a : Arv Z h0 a0 kw .int (3 : Int32) [(.int v0), (.int v1), (.int v2)] (.int (0 : Int32))) (g_a0 : n0 ≤ a0) (hi : f2 p1 = (0 : Int32)) :
    MetFree l (⟨"com/example/pertinet/pertinet/explore/State", "deactivate", "([II)V"⟩ : MethodName) (head1 (Jvm.Cond.code (⟨"com/example/pertinet/pertinet/explore/State", "deactivate", "([II)V"⟩ : MethodName) prog_39_method_7_code 2 none :: ws) ({ frames := 1, cells := 0, slots := 0, locals := 14 } : Room)) (fun a U => a = #[(.ref a0), (.int p1)] ∧ Z.Warmed39 U.vm ∧ U.heap = h0) (fun _ _ _ _ _ => True) (fun _ U o U' => ∃ v L, o = .returned v ∧ Q1_0 Z a0 p1 kw v0 v1 v2 h0 n0 v U'.heap L ∧ FrameEnd U o U' L ({ frames := 1, cells := 0, slots := 0, locals := 14 } : Room).cells ({ frames := 1, cells := 0, slots := 0, locals := 14 } : Room).slots) := by
  refine MetFree.of_bodySF (plainFor_of_name pn_2) hisR ?_
  intro p e s m args below meth c s₁ Bd hml0 hP hK
  obtain ⟨rfl, hZ, hh⟩ := hP
  have hx := Bd.exec
  have hby := Bd.bytes
  have hml : c.maxLocals = 2 := hml0
  have hown : s.vm.findClass "com/example/pertinet/pertinet/explore/State" = some m.cls := findClass_of_methodNamed Bd.named
  have hnm := (name_of_methodNamed Bd.named Bd.method).1
  have X0 : Stand p l e ({ frames := 1, cells := 0, slots := 0, locals := 14 } : Room) s m #[(.ref a0), (.int p1)] below meth c s₁ [] 0 0 := Stand.of_body Bd
  have e0 : s₁.heap = h0 := by rw [← hh, Bd.state]; rfl
  have N0 := Fr.nil n0
  have pre0 : ∀ t, Steps p.tables e below (s₁.setTop (mkF m 0 #[.val (.ref a0), .val (.int p1)] [])) t → Steps p.tables e below (s₁.setTop (entryFrame m #[(.ref a0), (.int p1)] 2)) t := fun t k => castTop (ef_1 m a0 p1) k
  have pre5 : ∀ t, Steps p.tables e below (s₁.setTop (mkF m 2 #[.val (.ref a0), .val (.int p1)] [(.int p1), (.ref a0)])) t → Steps p.tables e below (s₁.setTop (entryFrame m #[(.ref a0), (.int p1)] 2)) t := fun t k => by
    refine pre0 _ ?_
    show Steps p.tables e below (s₁.setTop (mkF m 0 #[.val (.ref a0), .val (.int p1)] [])) _
    refine XS.aloadN X0.here hx rfl (hb hby d1_0) rfl rfl ?_
    show Steps p.tables e below (s₁.setTop (mkF m 1 #[.val (.ref a0), .val (.int p1)] [(.ref a0)])) _
    refine XS.iloadN X0.here hx rfl (hb hby d1_1) rfl ?_
    show Steps p.tables e below (s₁.setTop (mkF m 2 #[.val (.ref a0), .val (.int p1)] [(.int p1), (.ref a0)])) _
    exact k
  obtain ⟨_, _, ⟨T6, L6, k6, n6⟩, -, X6, ⟨Lc6, hQ6, l6, y6, z6⟩, st6⟩ := Jvm.LawKit.callS X0 hx (y := (⟨"com/example/pertinet/pertinet/explore/State", "cellOf", "(I)I"⟩ : MethodName)) hown (mvT hZ (hw _ (List.mem_of_getElem? (i := 6) rfl))) (mvT hZ (hw _ (List.mem_of_getElem? (i := 7) rfl))) (mvT hZ (hw _ (List.mem_of_getElem? (i := 4) rfl))) (mvT hZ (hw _ (List.mem_of_getElem? (i := 8) rfl))) (by decide) (backOf (W := 1) (rm2 l Z aZ hw [] p1  h0 n0 Z0 ) hZ (hw _ (List.mem_of_getElem? (i := 8) rfl)) (hw _ (List.mem_of_getElem? (i := 4) rfl)) (by decide) (by decide)) (g := (mkF m 2 #[.val (.ref a0), .val (.int p1)] [(.int p1), (.ref a0)])) rfl (by rw [hml]; rfl) (argsL := [(.int p1)]) (rest := [(.ref a0)]) (lenOf pd_1 rfl) rfl (by show 2 * 0 + _ ≤ _; exact Nat.le_of_eq rfl) (hb hby d1_2) (fun _ _ => ⟨rfl, e0, (by decide : 0 + 0 ≤ _), (by decide : 0 + 0 ≤ _)⟩)
  dsimp only [Pt.U, Pt.locs, Pt.cells, Pt.slots] at X6 l6 y6 z6 st6 hQ6
  subst l6 y6 z6
  obtain ⟨rfl, N6q, e6⟩ := hQ6
  have N6 := Fr.app N0 N6q
  have pre6 : ∀ t, Steps p.tables e below (T6.setTop (mkF m 5 #[.val (.ref a0), .val (.int p1)] [(.int (f2 p1)), (.ref a0)])) t → Steps p.tables e below (s₁.setTop (entryFrame m #[(.ref a0), (.int p1)] 2)) t := fun t k => pre5 _ (st6 t k)
  have pre8 : ∀ t, Steps p.tables e below (T6.setTop (mkF m 5 #[.val (.ref a0), .val (.int p1)] [(.int (0 : Int32)), (.ref a0)])) t → Steps p.tables e below (s₁.setTop (entryFrame m #[(.ref a0), (.int p1)] 2)) t := by
    have q := pre6
    rw [hi] at q
    exact q
  have pre10 : ∀ t, Steps p.tables e below (T6.setTop (mkF m 6 #[.val (.ref a0), .val (.int p1)] [(.int (0 : Int32)), (.ref a0), (.int (0 : Int32)), (.ref a0)])) t → Steps p.tables e below (s₁.setTop (entryFrame m #[(.ref a0), (.int p1)] 2)) t := fun t k => by
    refine pre8 _ ?_
    show Steps p.tables e below (T6.setTop (mkF m 5 #[.val (.ref a0), .val (.int p1)] [(.int (0 : Int32)), (.ref a0)])) _
    jvm_step X6.here [X6.here.top, hx, (hb hby d1_5), Value.category]
    show Steps p.tables e below (T6.setTop (mkF m 6 #[.val (.ref a0), .val (.int p1)] [(.int (0 : Int32)), (.ref a0), (.int (0 : Int32)), (.ref a0)])) _
    exact k
  have Vo_a0_11 := V_a
  obtain ⟨cl_a0_11, Ar_a0_11, q_a0_11, S_a0_11, M_a0_11, H_a0_11, G_a0_11⟩ := Vo_a0_11
  have hin11 : ¬ ((0 : Int32) < 0 ∨ cl_a0_11.slots.size ≤ ((0 : Int32)).toNatClampNeg) := inb_of S_a0_11 ⟨by decide, by decide⟩
  have hat11 : cl_a0_11.slots[((0 : Int32)).toNatClampNeg]? = some (.int v0) := H_a0_11.at hin11 rfl
  have pre12 : ∀ t, Steps p.tables e below (T6.setTop (mkF m 7 #[.val (.ref a0), .val (.int p1)] [(.int v0), (.int (0 : Int32)), (.ref a0)])) t → Steps p.tables e below (s₁.setTop (entryFrame m #[(.ref a0), (.int p1)] 2)) t := fun t k => pre10 _ (X6.iaload hx (j := (0 : Int32)) (v := (.int v0)) (by rw [e6]; exact Ar_a0_11.1) (State.isArrayOf_alike hZ.alike Ar_a0_11.2.1) Ar_a0_11.2.2 hin11 hat11 (g := (mkF m 6 #[.val (.ref a0), .val (.int p1)] [(.int (0 : Int32)), (.ref a0), (.int (0 : Int32)), (.ref a0)])) rfl rfl (hb hby d1_6) t k)
  have pre13 : ∀ t, Steps p.tables e below (T6.setTop (mkF m 16 #[.val (.ref a0), .val (.int p1)] [(.int (v0 &&& (((1 : Int32) <<< ((p1 &&& (31 : Int32)) &&& 31)) ^^^ (-1 : Int32)))), (.int (0 : Int32)), (.ref a0)])) t → Steps p.tables e below (s₁.setTop (entryFrame m #[(.ref a0), (.int p1)] 2)) t := fun t k => by
    refine pre12 _ ?_
    show Steps p.tables e below (T6.setTop (mkF m 7 #[.val (.ref a0), .val (.int p1)] [(.int v0), (.int (0 : Int32)), (.ref a0)])) _
    refine XS.iconst X6.here hx rfl (hb hby d1_7) ?_
    show Steps p.tables e below (T6.setTop (mkF m 8 #[.val (.ref a0), .val (.int p1)] [(.int (1 : Int32)), (.int v0), (.int (0 : Int32)), (.ref a0)])) _
    refine XS.iloadN X6.here hx rfl (hb hby d1_8) rfl ?_
    show Steps p.tables e below (T6.setTop (mkF m 9 #[.val (.ref a0), .val (.int p1)] [(.int p1), (.int (1 : Int32)), (.int v0), (.int (0 : Int32)), (.ref a0)])) _
    refine XS.bipush X6.here hx rfl (hb hby d1_9) ?_
    show Steps p.tables e below (T6.setTop (mkF m 11 #[.val (.ref a0), .val (.int p1)] [(.int (31 : Int32)), (.int p1), (.int (1 : Int32)), (.int v0), (.int (0 : Int32)), (.ref a0)])) _
    refine XS.iand X6.here hx rfl (hb hby d1_11) rfl ?_
    show Steps p.tables e below (T6.setTop (mkF m 12 #[.val (.ref a0), .val (.int p1)] [(.int (p1 &&& (31 : Int32))), (.int (1 : Int32)), (.int v0), (.int (0 : Int32)), (.ref a0)])) _
    refine XS.ishl X6.here hx rfl (hb hby d1_12) rfl ?_
    show Steps p.tables e below (T6.setTop (mkF m 13 #[.val (.ref a0), .val (.int p1)] [(.int ((1 : Int32) <<< ((p1 &&& (31 : Int32)) &&& 31))), (.int v0), (.int (0 : Int32)), (.ref a0)])) _
    refine XS.iconst X6.here hx rfl (hb hby d1_13) ?_
    show Steps p.tables e below (T6.setTop (mkF m 14 #[.val (.ref a0), .val (.int p1)] [(.int (-1 : Int32)), (.int ((1 : Int32) <<< ((p1 &&& (31 : Int32)) &&& 31))), (.int v0), (.int (0 : Int32)), (.ref a0)])) _
    refine XS.ixor X6.here hx rfl (hb hby d1_14) rfl ?_
    show Steps p.tables e below (T6.setTop (mkF m 15 #[.val (.ref a0), .val (.int p1)] [(.int (((1 : Int32) <<< ((p1 &&& (31 : Int32)) &&& 31)) ^^^ (-1 : Int32))), (.int v0), (.int (0 : Int32)), (.ref a0)])) _
    refine XS.iand X6.here hx rfl (hb hby d1_15) rfl ?_
    show Steps p.tables e below (T6.setTop (mkF m 16 #[.val (.ref a0), .val (.int p1)] [(.int (v0 &&& (((1 : Int32) <<< ((p1 &&& (31 : Int32)) &&& 31)) ^^^ (-1 : Int32)))), (.int (0 : Int32)), (.ref a0)])) _
    exact k
  have Vo_a0_14 := V_a
  obtain ⟨cl_a0_14, Ar_a0_14, q_a0_14, S_a0_14, M_a0_14, H_a0_14, G_a0_14⟩ := Vo_a0_14
  have hin14 : ¬ ((0 : Int32) < 0 ∨ cl_a0_14.slots.size ≤ ((0 : Int32)).toNatClampNeg) := inb_of S_a0_14 ⟨by decide, by decide⟩
  obtain ⟨T14, h14, X14, e14, W14, st14⟩ := stI X6 hx hZ e6 Ar_a0_14 (j := (0 : Int32)) hin14 (g := (mkF m 16 #[.val (.ref a0), .val (.int p1)] [(.int (v0 &&& (((1 : Int32) <<< ((p1 &&& (31 : Int32)) &&& 31)) ^^^ (-1 : Int32)))), (.int (0 : Int32)), (.ref a0)])) rfl rfl (hb hby d1_16)
  have V14_a0 := Arv.set Ar_a0_14 q_a0_14 S_a0_14 M_a0_14 H_a0_14 G_a0_14 rfl W14 0 rfl (Nat.le_of_ble_eq_true rfl)
  have F14_0 := V14_a0
  have Zs14 : n0 ≤ h14.size := Nat.le_trans Z0 (Keep.of_wr W14).1
  have K0 := Keep.refl h0 [a0]
  have K14 := K0.wr W14 (Or.inl (List.mem_of_getElem? (i := 0) rfl))
  have N14 := Fr.snoc X14 N6 g_a0
  have pre14 : ∀ t, Steps p.tables e below (T14.setTop (mkF m 17 #[.val (.ref a0), .val (.int p1)] [])) t → Steps p.tables e below (s₁.setTop (entryFrame m #[(.ref a0), (.int p1)] 2)) t := fun t k => pre13 _ (st14 t k)
  obtain ⟨fs, hr, hrun, hended, hW, hsame⟩ := X14.leave (v := none) (fun _ => rfl)
  refine ⟨_, _, pre14 _ ?_, hrun, hended, _, _, rfl, ?_, ⟨_, rfl⟩, hW, hsame.mono (by decide) (by decide)⟩
  · show Steps p.tables e below (T14.setTop (mkF m 17 #[.val (.ref a0), .val (.int p1)] [])) _
    exact X14.returnOut hx Bd.returns (hb hby d1_17) hr
  · show Q1_0 Z a0 p1 kw v0 v1 v2 h0 n0 _ T14.heap _
    rw [e14]
    exact ⟨rfl, N14, K14, F14_0⟩
def Q1_1 (Z : State) (a0 : Addr) (p1 : Int32) (kw : ClassId) (v0 v1 v2 : Int32) (h0 : Heap) (n0 : Nat) (v : Option Value) (h : Heap) (L : List Loc) : Prop := v = none ∧ Fr n0 L ∧ Keep h0 h [a0] ∧ Arv Z h a0 kw .int (3 : Int32) [(.int v0), (.int (own_off v1 p1)), (.int v2)] (.int (0 : Int32))
set_option maxRecDepth 65536 in
set_option maxHeartbeats 40000000 in
theorem rm1_1 (l : Launch) (Z : State) (aZ : Array Value) (hw : ∀ d ∈ tables_1, d.before aZ Z = true) (ws : List Jvm.Cond) (a0 : Addr) (p1 : Int32) (kw : ClassId) (v0 v1 v2 : Int32) (h0 : Heap) (n0 : Nat) (Z0 : n0 ≤ h0.size) (V_a : Arv Z h0 a0 kw .int (3 : Int32) [(.int v0), (.int v1), (.int v2)] (.int (0 : Int32))) (g_a0 : n0 ≤ a0) (hi : f2 p1 = (1 : Int32)) :
    MetFree l (⟨"com/example/pertinet/pertinet/explore/State", "deactivate", "([II)V"⟩ : MethodName) (head1 (Jvm.Cond.code (⟨"com/example/pertinet/pertinet/explore/State", "deactivate", "([II)V"⟩ : MethodName) prog_39_method_7_code 2 none :: ws) ({ frames := 1, cells := 0, slots := 0, locals := 14 } : Room)) (fun a U => a = #[(.ref a0), (.int p1)] ∧ Z.Warmed39 U.vm ∧ U.heap = h0) (fun _ _ _ _ _ => True) (fun _ U o U' => ∃ v L, o = .returned v ∧ Q1_1 Z a0 p1 kw v0 v1 v2 h0 n0 v U'.heap L ∧ FrameEnd U o U' L ({ frames := 1, cells := 0, slots := 0, locals := 14 } : Room).cells ({ frames := 1, cells := 0, slots := 0, locals := 14 } : Room).slots) := by
  refine MetFree.of_bodySF (plainFor_of_name pn_2) hisR ?_
  intro p e s m args below meth c s₁ Bd hml0 hP hK
  obtain ⟨rfl, hZ, hh⟩ := hP
  have hx := Bd.exec
  have hby := Bd.bytes
  have hml : c.maxLocals = 2 := hml0
  have hown : s.vm.findClass "com/example/pertinet/pertinet/explore/State" = some m.cls := findClass_of_methodNamed Bd.named
  have hnm := (name_of_methodNamed Bd.named Bd.method).1
  have X0 : Stand p l e ({ frames := 1, cells := 0, slots := 0, locals := 14 } : Room) s m #[(.ref a0), (.int p1)] below meth c s₁ [] 0 0 := Stand.of_body Bd
  have e0 : s₁.heap = h0 := by rw [← hh, Bd.state]; rfl
  have N0 := Fr.nil n0
  have pre0 : ∀ t, Steps p.tables e below (s₁.setTop (mkF m 0 #[.val (.ref a0), .val (.int p1)] [])) t → Steps p.tables e below (s₁.setTop (entryFrame m #[(.ref a0), (.int p1)] 2)) t := fun t k => castTop (ef_1 m a0 p1) k
  have pre16 : ∀ t, Steps p.tables e below (s₁.setTop (mkF m 2 #[.val (.ref a0), .val (.int p1)] [(.int p1), (.ref a0)])) t → Steps p.tables e below (s₁.setTop (entryFrame m #[(.ref a0), (.int p1)] 2)) t := fun t k => by
    refine pre0 _ ?_
    show Steps p.tables e below (s₁.setTop (mkF m 0 #[.val (.ref a0), .val (.int p1)] [])) _
    refine XS.aloadN X0.here hx rfl (hb hby d1_0) rfl rfl ?_
    show Steps p.tables e below (s₁.setTop (mkF m 1 #[.val (.ref a0), .val (.int p1)] [(.ref a0)])) _
    refine XS.iloadN X0.here hx rfl (hb hby d1_1) rfl ?_
    show Steps p.tables e below (s₁.setTop (mkF m 2 #[.val (.ref a0), .val (.int p1)] [(.int p1), (.ref a0)])) _
    exact k
  obtain ⟨_, _, ⟨T17, L17, k17, n17⟩, -, X17, ⟨Lc17, hQ17, l17, y17, z17⟩, st17⟩ := Jvm.LawKit.callS X0 hx (y := (⟨"com/example/pertinet/pertinet/explore/State", "cellOf", "(I)I"⟩ : MethodName)) hown (mvT hZ (hw _ (List.mem_of_getElem? (i := 6) rfl))) (mvT hZ (hw _ (List.mem_of_getElem? (i := 7) rfl))) (mvT hZ (hw _ (List.mem_of_getElem? (i := 4) rfl))) (mvT hZ (hw _ (List.mem_of_getElem? (i := 8) rfl))) (by decide) (backOf (W := 1) (rm2 l Z aZ hw [] p1  h0 n0 Z0 ) hZ (hw _ (List.mem_of_getElem? (i := 8) rfl)) (hw _ (List.mem_of_getElem? (i := 4) rfl)) (by decide) (by decide)) (g := (mkF m 2 #[.val (.ref a0), .val (.int p1)] [(.int p1), (.ref a0)])) rfl (by rw [hml]; rfl) (argsL := [(.int p1)]) (rest := [(.ref a0)]) (lenOf pd_1 rfl) rfl (by show 2 * 0 + _ ≤ _; exact Nat.le_of_eq rfl) (hb hby d1_2) (fun _ _ => ⟨rfl, e0, (by decide : 0 + 0 ≤ _), (by decide : 0 + 0 ≤ _)⟩)
  dsimp only [Pt.U, Pt.locs, Pt.cells, Pt.slots] at X17 l17 y17 z17 st17 hQ17
  subst l17 y17 z17
  obtain ⟨rfl, N17q, e17⟩ := hQ17
  have N17 := Fr.app N0 N17q
  have pre17 : ∀ t, Steps p.tables e below (T17.setTop (mkF m 5 #[.val (.ref a0), .val (.int p1)] [(.int (f2 p1)), (.ref a0)])) t → Steps p.tables e below (s₁.setTop (entryFrame m #[(.ref a0), (.int p1)] 2)) t := fun t k => pre16 _ (st17 t k)
  have pre19 : ∀ t, Steps p.tables e below (T17.setTop (mkF m 5 #[.val (.ref a0), .val (.int p1)] [(.int (1 : Int32)), (.ref a0)])) t → Steps p.tables e below (s₁.setTop (entryFrame m #[(.ref a0), (.int p1)] 2)) t := by
    have q := pre17
    rw [hi] at q
    exact q
  have pre21 : ∀ t, Steps p.tables e below (T17.setTop (mkF m 6 #[.val (.ref a0), .val (.int p1)] [(.int (1 : Int32)), (.ref a0), (.int (1 : Int32)), (.ref a0)])) t → Steps p.tables e below (s₁.setTop (entryFrame m #[(.ref a0), (.int p1)] 2)) t := fun t k => by
    refine pre19 _ ?_
    show Steps p.tables e below (T17.setTop (mkF m 5 #[.val (.ref a0), .val (.int p1)] [(.int (1 : Int32)), (.ref a0)])) _
    jvm_step X17.here [X17.here.top, hx, (hb hby d1_5), Value.category]
    show Steps p.tables e below (T17.setTop (mkF m 6 #[.val (.ref a0), .val (.int p1)] [(.int (1 : Int32)), (.ref a0), (.int (1 : Int32)), (.ref a0)])) _
    exact k
  have Vo_a0_22 := V_a
  obtain ⟨cl_a0_22, Ar_a0_22, q_a0_22, S_a0_22, M_a0_22, H_a0_22, G_a0_22⟩ := Vo_a0_22
  have hin22 : ¬ ((1 : Int32) < 0 ∨ cl_a0_22.slots.size ≤ ((1 : Int32)).toNatClampNeg) := inb_of S_a0_22 ⟨by decide, by decide⟩
  have hat22 : cl_a0_22.slots[((1 : Int32)).toNatClampNeg]? = some (.int v1) := H_a0_22.at hin22 rfl
  have pre23 : ∀ t, Steps p.tables e below (T17.setTop (mkF m 7 #[.val (.ref a0), .val (.int p1)] [(.int v1), (.int (1 : Int32)), (.ref a0)])) t → Steps p.tables e below (s₁.setTop (entryFrame m #[(.ref a0), (.int p1)] 2)) t := fun t k => pre21 _ (X17.iaload hx (j := (1 : Int32)) (v := (.int v1)) (by rw [e17]; exact Ar_a0_22.1) (State.isArrayOf_alike hZ.alike Ar_a0_22.2.1) Ar_a0_22.2.2 hin22 hat22 (g := (mkF m 6 #[.val (.ref a0), .val (.int p1)] [(.int (1 : Int32)), (.ref a0), (.int (1 : Int32)), (.ref a0)])) rfl rfl (hb hby d1_6) t k)
  have pre24 : ∀ t, Steps p.tables e below (T17.setTop (mkF m 16 #[.val (.ref a0), .val (.int p1)] [(.int (v1 &&& (((1 : Int32) <<< ((p1 &&& (31 : Int32)) &&& 31)) ^^^ (-1 : Int32)))), (.int (1 : Int32)), (.ref a0)])) t → Steps p.tables e below (s₁.setTop (entryFrame m #[(.ref a0), (.int p1)] 2)) t := fun t k => by
    refine pre23 _ ?_
    show Steps p.tables e below (T17.setTop (mkF m 7 #[.val (.ref a0), .val (.int p1)] [(.int v1), (.int (1 : Int32)), (.ref a0)])) _
    refine XS.iconst X17.here hx rfl (hb hby d1_7) ?_
    show Steps p.tables e below (T17.setTop (mkF m 8 #[.val (.ref a0), .val (.int p1)] [(.int (1 : Int32)), (.int v1), (.int (1 : Int32)), (.ref a0)])) _
    refine XS.iloadN X17.here hx rfl (hb hby d1_8) rfl ?_
    show Steps p.tables e below (T17.setTop (mkF m 9 #[.val (.ref a0), .val (.int p1)] [(.int p1), (.int (1 : Int32)), (.int v1), (.int (1 : Int32)), (.ref a0)])) _
    refine XS.bipush X17.here hx rfl (hb hby d1_9) ?_
    show Steps p.tables e below (T17.setTop (mkF m 11 #[.val (.ref a0), .val (.int p1)] [(.int (31 : Int32)), (.int p1), (.int (1 : Int32)), (.int v1), (.int (1 : Int32)), (.ref a0)])) _
    refine XS.iand X17.here hx rfl (hb hby d1_11) rfl ?_
    show Steps p.tables e below (T17.setTop (mkF m 12 #[.val (.ref a0), .val (.int p1)] [(.int (p1 &&& (31 : Int32))), (.int (1 : Int32)), (.int v1), (.int (1 : Int32)), (.ref a0)])) _
    refine XS.ishl X17.here hx rfl (hb hby d1_12) rfl ?_
    show Steps p.tables e below (T17.setTop (mkF m 13 #[.val (.ref a0), .val (.int p1)] [(.int ((1 : Int32) <<< ((p1 &&& (31 : Int32)) &&& 31))), (.int v1), (.int (1 : Int32)), (.ref a0)])) _
    refine XS.iconst X17.here hx rfl (hb hby d1_13) ?_
    show Steps p.tables e below (T17.setTop (mkF m 14 #[.val (.ref a0), .val (.int p1)] [(.int (-1 : Int32)), (.int ((1 : Int32) <<< ((p1 &&& (31 : Int32)) &&& 31))), (.int v1), (.int (1 : Int32)), (.ref a0)])) _
    refine XS.ixor X17.here hx rfl (hb hby d1_14) rfl ?_
    show Steps p.tables e below (T17.setTop (mkF m 15 #[.val (.ref a0), .val (.int p1)] [(.int (((1 : Int32) <<< ((p1 &&& (31 : Int32)) &&& 31)) ^^^ (-1 : Int32))), (.int v1), (.int (1 : Int32)), (.ref a0)])) _
    refine XS.iand X17.here hx rfl (hb hby d1_15) rfl ?_
    show Steps p.tables e below (T17.setTop (mkF m 16 #[.val (.ref a0), .val (.int p1)] [(.int (v1 &&& (((1 : Int32) <<< ((p1 &&& (31 : Int32)) &&& 31)) ^^^ (-1 : Int32)))), (.int (1 : Int32)), (.ref a0)])) _
    exact k
  have Vo_a0_25 := V_a
  obtain ⟨cl_a0_25, Ar_a0_25, q_a0_25, S_a0_25, M_a0_25, H_a0_25, G_a0_25⟩ := Vo_a0_25
  have hin25 : ¬ ((1 : Int32) < 0 ∨ cl_a0_25.slots.size ≤ ((1 : Int32)).toNatClampNeg) := inb_of S_a0_25 ⟨by decide, by decide⟩
  obtain ⟨T25, h25, X25, e25, W25, st25⟩ := stI X17 hx hZ e17 Ar_a0_25 (j := (1 : Int32)) hin25 (g := (mkF m 16 #[.val (.ref a0), .val (.int p1)] [(.int (v1 &&& (((1 : Int32) <<< ((p1 &&& (31 : Int32)) &&& 31)) ^^^ (-1 : Int32)))), (.int (1 : Int32)), (.ref a0)])) rfl rfl (hb hby d1_16)
  have V25_a0 := Arv.set Ar_a0_25 q_a0_25 S_a0_25 M_a0_25 H_a0_25 G_a0_25 rfl W25 1 rfl (Nat.le_of_ble_eq_true rfl)
  have F25_0 := V25_a0
  have Zs25 : n0 ≤ h25.size := Nat.le_trans Z0 (Keep.of_wr W25).1
  have K0 := Keep.refl h0 [a0]
  have K25 := K0.wr W25 (Or.inl (List.mem_of_getElem? (i := 0) rfl))
  have N25 := Fr.snoc X25 N17 g_a0
  have pre25 : ∀ t, Steps p.tables e below (T25.setTop (mkF m 17 #[.val (.ref a0), .val (.int p1)] [])) t → Steps p.tables e below (s₁.setTop (entryFrame m #[(.ref a0), (.int p1)] 2)) t := fun t k => pre24 _ (st25 t k)
  obtain ⟨fs, hr, hrun, hended, hW, hsame⟩ := X25.leave (v := none) (fun _ => rfl)
  refine ⟨_, _, pre25 _ ?_, hrun, hended, _, _, rfl, ?_, ⟨_, rfl⟩, hW, hsame.mono (by decide) (by decide)⟩
  · show Steps p.tables e below (T25.setTop (mkF m 17 #[.val (.ref a0), .val (.int p1)] [])) _
    exact X25.returnOut hx Bd.returns (hb hby d1_17) hr
  · show Q1_1 Z a0 p1 kw v0 v1 v2 h0 n0 _ T25.heap _
    rw [e25]
    exact ⟨rfl, N25, K25, F25_0⟩
def Q1_2 (Z : State) (a0 : Addr) (p1 : Int32) (kw : ClassId) (v0 v1 v2 : Int32) (h0 : Heap) (n0 : Nat) (v : Option Value) (h : Heap) (L : List Loc) : Prop := v = none ∧ Fr n0 L ∧ Keep h0 h [a0] ∧ Arv Z h a0 kw .int (3 : Int32) [(.int v0), (.int v1), (.int (own_off v2 p1))] (.int (0 : Int32))
set_option maxRecDepth 65536 in
set_option maxHeartbeats 40000000 in
theorem rm1_2 (l : Launch) (Z : State) (aZ : Array Value) (hw : ∀ d ∈ tables_1, d.before aZ Z = true) (ws : List Jvm.Cond) (a0 : Addr) (p1 : Int32) (kw : ClassId) (v0 v1 v2 : Int32) (h0 : Heap) (n0 : Nat) (Z0 : n0 ≤ h0.size) (V_a : Arv Z h0 a0 kw .int (3 : Int32) [(.int v0), (.int v1), (.int v2)] (.int (0 : Int32))) (g_a0 : n0 ≤ a0) (hi : f2 p1 = (2 : Int32)) :
    MetFree l (⟨"com/example/pertinet/pertinet/explore/State", "deactivate", "([II)V"⟩ : MethodName) (head1 (Jvm.Cond.code (⟨"com/example/pertinet/pertinet/explore/State", "deactivate", "([II)V"⟩ : MethodName) prog_39_method_7_code 2 none :: ws) ({ frames := 1, cells := 0, slots := 0, locals := 14 } : Room)) (fun a U => a = #[(.ref a0), (.int p1)] ∧ Z.Warmed39 U.vm ∧ U.heap = h0) (fun _ _ _ _ _ => True) (fun _ U o U' => ∃ v L, o = .returned v ∧ Q1_2 Z a0 p1 kw v0 v1 v2 h0 n0 v U'.heap L ∧ FrameEnd U o U' L ({ frames := 1, cells := 0, slots := 0, locals := 14 } : Room).cells ({ frames := 1, cells := 0, slots := 0, locals := 14 } : Room).slots) := by
  refine MetFree.of_bodySF (plainFor_of_name pn_2) hisR ?_
  intro p e s m args below meth c s₁ Bd hml0 hP hK
  obtain ⟨rfl, hZ, hh⟩ := hP
  have hx := Bd.exec
  have hby := Bd.bytes
  have hml : c.maxLocals = 2 := hml0
  have hown : s.vm.findClass "com/example/pertinet/pertinet/explore/State" = some m.cls := findClass_of_methodNamed Bd.named
  have hnm := (name_of_methodNamed Bd.named Bd.method).1
  have X0 : Stand p l e ({ frames := 1, cells := 0, slots := 0, locals := 14 } : Room) s m #[(.ref a0), (.int p1)] below meth c s₁ [] 0 0 := Stand.of_body Bd
  have e0 : s₁.heap = h0 := by rw [← hh, Bd.state]; rfl
  have N0 := Fr.nil n0
  have pre0 : ∀ t, Steps p.tables e below (s₁.setTop (mkF m 0 #[.val (.ref a0), .val (.int p1)] [])) t → Steps p.tables e below (s₁.setTop (entryFrame m #[(.ref a0), (.int p1)] 2)) t := fun t k => castTop (ef_1 m a0 p1) k
  have pre27 : ∀ t, Steps p.tables e below (s₁.setTop (mkF m 2 #[.val (.ref a0), .val (.int p1)] [(.int p1), (.ref a0)])) t → Steps p.tables e below (s₁.setTop (entryFrame m #[(.ref a0), (.int p1)] 2)) t := fun t k => by
    refine pre0 _ ?_
    show Steps p.tables e below (s₁.setTop (mkF m 0 #[.val (.ref a0), .val (.int p1)] [])) _
    refine XS.aloadN X0.here hx rfl (hb hby d1_0) rfl rfl ?_
    show Steps p.tables e below (s₁.setTop (mkF m 1 #[.val (.ref a0), .val (.int p1)] [(.ref a0)])) _
    refine XS.iloadN X0.here hx rfl (hb hby d1_1) rfl ?_
    show Steps p.tables e below (s₁.setTop (mkF m 2 #[.val (.ref a0), .val (.int p1)] [(.int p1), (.ref a0)])) _
    exact k
  obtain ⟨_, _, ⟨T28, L28, k28, n28⟩, -, X28, ⟨Lc28, hQ28, l28, y28, z28⟩, st28⟩ := Jvm.LawKit.callS X0 hx (y := (⟨"com/example/pertinet/pertinet/explore/State", "cellOf", "(I)I"⟩ : MethodName)) hown (mvT hZ (hw _ (List.mem_of_getElem? (i := 6) rfl))) (mvT hZ (hw _ (List.mem_of_getElem? (i := 7) rfl))) (mvT hZ (hw _ (List.mem_of_getElem? (i := 4) rfl))) (mvT hZ (hw _ (List.mem_of_getElem? (i := 8) rfl))) (by decide) (backOf (W := 1) (rm2 l Z aZ hw [] p1  h0 n0 Z0 ) hZ (hw _ (List.mem_of_getElem? (i := 8) rfl)) (hw _ (List.mem_of_getElem? (i := 4) rfl)) (by decide) (by decide)) (g := (mkF m 2 #[.val (.ref a0), .val (.int p1)] [(.int p1), (.ref a0)])) rfl (by rw [hml]; rfl) (argsL := [(.int p1)]) (rest := [(.ref a0)]) (lenOf pd_1 rfl) rfl (by show 2 * 0 + _ ≤ _; exact Nat.le_of_eq rfl) (hb hby d1_2) (fun _ _ => ⟨rfl, e0, (by decide : 0 + 0 ≤ _), (by decide : 0 + 0 ≤ _)⟩)
  dsimp only [Pt.U, Pt.locs, Pt.cells, Pt.slots] at X28 l28 y28 z28 st28 hQ28
  subst l28 y28 z28
  obtain ⟨rfl, N28q, e28⟩ := hQ28
  have N28 := Fr.app N0 N28q
  have pre28 : ∀ t, Steps p.tables e below (T28.setTop (mkF m 5 #[.val (.ref a0), .val (.int p1)] [(.int (f2 p1)), (.ref a0)])) t → Steps p.tables e below (s₁.setTop (entryFrame m #[(.ref a0), (.int p1)] 2)) t := fun t k => pre27 _ (st28 t k)
  have pre30 : ∀ t, Steps p.tables e below (T28.setTop (mkF m 5 #[.val (.ref a0), .val (.int p1)] [(.int (2 : Int32)), (.ref a0)])) t → Steps p.tables e below (s₁.setTop (entryFrame m #[(.ref a0), (.int p1)] 2)) t := by
    have q := pre28
    rw [hi] at q
    exact q
  have pre32 : ∀ t, Steps p.tables e below (T28.setTop (mkF m 6 #[.val (.ref a0), .val (.int p1)] [(.int (2 : Int32)), (.ref a0), (.int (2 : Int32)), (.ref a0)])) t → Steps p.tables e below (s₁.setTop (entryFrame m #[(.ref a0), (.int p1)] 2)) t := fun t k => by
    refine pre30 _ ?_
    show Steps p.tables e below (T28.setTop (mkF m 5 #[.val (.ref a0), .val (.int p1)] [(.int (2 : Int32)), (.ref a0)])) _
    jvm_step X28.here [X28.here.top, hx, (hb hby d1_5), Value.category]
    show Steps p.tables e below (T28.setTop (mkF m 6 #[.val (.ref a0), .val (.int p1)] [(.int (2 : Int32)), (.ref a0), (.int (2 : Int32)), (.ref a0)])) _
    exact k
  have Vo_a0_33 := V_a
  obtain ⟨cl_a0_33, Ar_a0_33, q_a0_33, S_a0_33, M_a0_33, H_a0_33, G_a0_33⟩ := Vo_a0_33
  have hin33 : ¬ ((2 : Int32) < 0 ∨ cl_a0_33.slots.size ≤ ((2 : Int32)).toNatClampNeg) := inb_of S_a0_33 ⟨by decide, by decide⟩
  have hat33 : cl_a0_33.slots[((2 : Int32)).toNatClampNeg]? = some (.int v2) := H_a0_33.at hin33 rfl
  have pre34 : ∀ t, Steps p.tables e below (T28.setTop (mkF m 7 #[.val (.ref a0), .val (.int p1)] [(.int v2), (.int (2 : Int32)), (.ref a0)])) t → Steps p.tables e below (s₁.setTop (entryFrame m #[(.ref a0), (.int p1)] 2)) t := fun t k => pre32 _ (X28.iaload hx (j := (2 : Int32)) (v := (.int v2)) (by rw [e28]; exact Ar_a0_33.1) (State.isArrayOf_alike hZ.alike Ar_a0_33.2.1) Ar_a0_33.2.2 hin33 hat33 (g := (mkF m 6 #[.val (.ref a0), .val (.int p1)] [(.int (2 : Int32)), (.ref a0), (.int (2 : Int32)), (.ref a0)])) rfl rfl (hb hby d1_6) t k)
  have pre35 : ∀ t, Steps p.tables e below (T28.setTop (mkF m 16 #[.val (.ref a0), .val (.int p1)] [(.int (v2 &&& (((1 : Int32) <<< ((p1 &&& (31 : Int32)) &&& 31)) ^^^ (-1 : Int32)))), (.int (2 : Int32)), (.ref a0)])) t → Steps p.tables e below (s₁.setTop (entryFrame m #[(.ref a0), (.int p1)] 2)) t := fun t k => by
    refine pre34 _ ?_
    show Steps p.tables e below (T28.setTop (mkF m 7 #[.val (.ref a0), .val (.int p1)] [(.int v2), (.int (2 : Int32)), (.ref a0)])) _
    refine XS.iconst X28.here hx rfl (hb hby d1_7) ?_
    show Steps p.tables e below (T28.setTop (mkF m 8 #[.val (.ref a0), .val (.int p1)] [(.int (1 : Int32)), (.int v2), (.int (2 : Int32)), (.ref a0)])) _
    refine XS.iloadN X28.here hx rfl (hb hby d1_8) rfl ?_
    show Steps p.tables e below (T28.setTop (mkF m 9 #[.val (.ref a0), .val (.int p1)] [(.int p1), (.int (1 : Int32)), (.int v2), (.int (2 : Int32)), (.ref a0)])) _
    refine XS.bipush X28.here hx rfl (hb hby d1_9) ?_
    show Steps p.tables e below (T28.setTop (mkF m 11 #[.val (.ref a0), .val (.int p1)] [(.int (31 : Int32)), (.int p1), (.int (1 : Int32)), (.int v2), (.int (2 : Int32)), (.ref a0)])) _
    refine XS.iand X28.here hx rfl (hb hby d1_11) rfl ?_
    show Steps p.tables e below (T28.setTop (mkF m 12 #[.val (.ref a0), .val (.int p1)] [(.int (p1 &&& (31 : Int32))), (.int (1 : Int32)), (.int v2), (.int (2 : Int32)), (.ref a0)])) _
    refine XS.ishl X28.here hx rfl (hb hby d1_12) rfl ?_
    show Steps p.tables e below (T28.setTop (mkF m 13 #[.val (.ref a0), .val (.int p1)] [(.int ((1 : Int32) <<< ((p1 &&& (31 : Int32)) &&& 31))), (.int v2), (.int (2 : Int32)), (.ref a0)])) _
    refine XS.iconst X28.here hx rfl (hb hby d1_13) ?_
    show Steps p.tables e below (T28.setTop (mkF m 14 #[.val (.ref a0), .val (.int p1)] [(.int (-1 : Int32)), (.int ((1 : Int32) <<< ((p1 &&& (31 : Int32)) &&& 31))), (.int v2), (.int (2 : Int32)), (.ref a0)])) _
    refine XS.ixor X28.here hx rfl (hb hby d1_14) rfl ?_
    show Steps p.tables e below (T28.setTop (mkF m 15 #[.val (.ref a0), .val (.int p1)] [(.int (((1 : Int32) <<< ((p1 &&& (31 : Int32)) &&& 31)) ^^^ (-1 : Int32))), (.int v2), (.int (2 : Int32)), (.ref a0)])) _
    refine XS.iand X28.here hx rfl (hb hby d1_15) rfl ?_
    show Steps p.tables e below (T28.setTop (mkF m 16 #[.val (.ref a0), .val (.int p1)] [(.int (v2 &&& (((1 : Int32) <<< ((p1 &&& (31 : Int32)) &&& 31)) ^^^ (-1 : Int32)))), (.int (2 : Int32)), (.ref a0)])) _
    exact k
  have Vo_a0_36 := V_a
  obtain ⟨cl_a0_36, Ar_a0_36, q_a0_36, S_a0_36, M_a0_36, H_a0_36, G_a0_36⟩ := Vo_a0_36
  have hin36 : ¬ ((2 : Int32) < 0 ∨ cl_a0_36.slots.size ≤ ((2 : Int32)).toNatClampNeg) := inb_of S_a0_36 ⟨by decide, by decide⟩
  obtain ⟨T36, h36, X36, e36, W36, st36⟩ := stI X28 hx hZ e28 Ar_a0_36 (j := (2 : Int32)) hin36 (g := (mkF m 16 #[.val (.ref a0), .val (.int p1)] [(.int (v2 &&& (((1 : Int32) <<< ((p1 &&& (31 : Int32)) &&& 31)) ^^^ (-1 : Int32)))), (.int (2 : Int32)), (.ref a0)])) rfl rfl (hb hby d1_16)
  have V36_a0 := Arv.set Ar_a0_36 q_a0_36 S_a0_36 M_a0_36 H_a0_36 G_a0_36 rfl W36 2 rfl (Nat.le_of_ble_eq_true rfl)
  have F36_0 := V36_a0
  have Zs36 : n0 ≤ h36.size := Nat.le_trans Z0 (Keep.of_wr W36).1
  have K0 := Keep.refl h0 [a0]
  have K36 := K0.wr W36 (Or.inl (List.mem_of_getElem? (i := 0) rfl))
  have N36 := Fr.snoc X36 N28 g_a0
  have pre36 : ∀ t, Steps p.tables e below (T36.setTop (mkF m 17 #[.val (.ref a0), .val (.int p1)] [])) t → Steps p.tables e below (s₁.setTop (entryFrame m #[(.ref a0), (.int p1)] 2)) t := fun t k => pre35 _ (st36 t k)
  obtain ⟨fs, hr, hrun, hended, hW, hsame⟩ := X36.leave (v := none) (fun _ => rfl)
  refine ⟨_, _, pre36 _ ?_, hrun, hended, _, _, rfl, ?_, ⟨_, rfl⟩, hW, hsame.mono (by decide) (by decide)⟩
  · show Steps p.tables e below (T36.setTop (mkF m 17 #[.val (.ref a0), .val (.int p1)] [])) _
    exact X36.returnOut hx Bd.returns (hb hby d1_17) hr
  · show Q1_2 Z a0 p1 kw v0 v1 v2 h0 n0 _ T36.heap _
    rw [e36]
    exact ⟨rfl, N36, K36, F36_0⟩
theorem own_bit (b : Int32) : 0 ≤ ((b &&& (2147483647 : Int32)) - ((b &&& (2147483647 : Int32)) / (96 : Int32)) * (96 : Int32)).toInt ∧ ((b &&& (2147483647 : Int32)) - ((b &&& (2147483647 : Int32)) / (96 : Int32)) * (96 : Int32)).toInt < 96 := by
  have e : (b &&& (2147483647 : Int32)).toInt = b.toInt % 2 ^ 31 := Jvm.Kit.i32_mask b 2147483647 (k := 31) (by decide) (by decide)
  generalize (b &&& (2147483647 : Int32)) = s at e ⊢
  have k : (96 : Int32).toInt = 96 := by decide
  have h0 : 0 ≤ s.toInt := by omega
  have hd : (s / (96 : Int32)).toInt = s.toInt / 96 := by rw [Jvm.Kit.i32_div (by omega), k, Int.tdiv_eq_ediv_of_nonneg h0]
  have hm : ((s / (96 : Int32)) * (96 : Int32)).toInt = s.toInt / 96 * 96 := by rw [Jvm.Kit.i32_mul (by rw [hd, k]; omega) (by rw [hd, k]; omega), hd, k]
  rw [Jvm.Kit.i32_sub (by omega) (by omega), hm]
  omega
theorem own_div (b : Int32) (h : 0 ≤ b.toInt) : (b / (32 : Int32)).toInt = b.toInt / 32 := by
  have k : (32 : Int32).toInt = 32 := by decide
  rw [Jvm.Kit.i32_div (by omega), k, Int.tdiv_eq_ediv_of_nonneg h]
theorem own_idx (b : Int32) (h : 0 ≤ b.toInt) (h2 : b.toInt < 96) : b / (32 : Int32) = f2 b ∧ (f2 b).toInt = b.toInt / 32 := by
  have k0 : (0 : Int32).toInt = 0 := by decide
  have u : (f2 b).toInt = b.toInt / 2 ^ 5 := by
    unfold f2
    rw [Jvm.Kit.i32_iushr (k := 5) (by rw [Int32.le_iff_toInt_le, k0]; omega) (by decide) (by decide)]
  exact ⟨Int32.toInt_inj.mp (by rw [own_div b h, u]; omega), u.trans (by omega)⟩
theorem own_pos (b : Int32) (h : 0 ≤ b.toInt) (h2 : b.toInt < 96) : (b - (b / (32 : Int32)) * (32 : Int32)) = (b &&& (31 : Int32)) := by
  have k : (32 : Int32).toInt = 32 := by decide
  have e : (b &&& (31 : Int32)).toInt = b.toInt % 2 ^ 5 := Jvm.Kit.i32_mask b 31 (k := 5) (by decide) (by decide)
  have hd := own_div b h
  have hm : ((b / (32 : Int32)) * (32 : Int32)).toInt = b.toInt / 32 * 32 := by rw [Jvm.Kit.i32_mul (by rw [hd, k]; omega) (by rw [hd, k]; omega), hd, k]
  exact Int32.toInt_inj.mp (by rw [Jvm.Kit.i32_sub (by omega) (by omega), hm, e]; omega)
theorem own_bv (c : BitVec 32) (n : Nat) (hn : n < 32) : c &&& ((1#32 <<< n) ^^^ 4294967295#32) = if (c >>> n) &&& 1#32 = 1#32 then c - (1#32 <<< n) else c := by
  have hnot : (1#32 <<< n) ^^^ 4294967295#32 = ~~~ (1#32 <<< n) := by
    have : (4294967295#32 : BitVec 32) = BitVec.allOnes 32 := by decide
    rw [this, BitVec.xor_allOnes]
  rw [hnot]
  have split : (c &&& (1#32 <<< n)) + (c &&& ~~~ (1#32 <<< n)) = c := by
    rw [BitVec.add_eq_or_of_and_eq_zero]
    · ext i hi
      simp only [BitVec.getElem_or, BitVec.getElem_and, BitVec.getElem_not]
      cases c[i] <;> cases (1#32 <<< n)[i] <;> rfl
    · ext i hi
      simp only [BitVec.getElem_and, BitVec.getElem_not, BitVec.getElem_zero]
      cases c[i] <;> cases (1#32 <<< n)[i] <;> rfl
  have one : ∀ i, (1#32 <<< n).getLsbD i = decide (i = n) := by
    intro i
    rw [BitVec.getLsbD_shiftLeft]
    by_cases q : i = n
    · subst q; simp [hn]
    · simp only [q, decide_false]
      by_cases r : i < n
      · simp [r]
      · have : (1#32).getLsbD (i - n) = false := by
          rw [BitVec.getLsbD_one]
          have : i - n ≠ 0 := by omega
          simp [this]
        simp [this]
  by_cases g : c.getLsbD n = true
  · have a : (c >>> n) &&& 1#32 = 1#32 := by
      apply BitVec.eq_of_getLsbD_eq
      intro i hi
      rw [BitVec.getLsbD_and, BitVec.getLsbD_ushiftRight, BitVec.getLsbD_one]
      by_cases q : i = 0
      · subst q; simp [g]
      · simp [q]
    have w : c &&& (1#32 <<< n) = 1#32 <<< n := by
      apply BitVec.eq_of_getLsbD_eq
      intro i hi
      rw [BitVec.getLsbD_and, one]
      by_cases q : i = n
      · subst q; simp [g]
      · simp [q]
    rw [if_pos a]
    rw [w] at split
    exact BitVec.eq_sub_iff_add_eq.mpr (by rw [BitVec.add_comm]; exact split)
  · have g' : c.getLsbD n = false := by simpa using g
    have a : ¬ (c >>> n) &&& 1#32 = 1#32 := fun q => by
      have := congrArg (fun b => b.getLsbD 0) q
      simp [BitVec.getLsbD_ushiftRight, g'] at this
    have w : c &&& (1#32 <<< n) = 0#32 := by
      apply BitVec.eq_of_getLsbD_eq
      intro i hi
      rw [BitVec.getLsbD_and, one]
      by_cases q : i = n
      · subst q; simp [g']
      · simp [q]
    rw [if_neg a]
    rw [w, BitVec.zero_add] at split
    exact split
theorem own_sh : ∀ n : Fin 32, ((Int32.ofNat n.val).toBitVec.smod 32#32) = BitVec.ofNat 32 n.val := by decide +kernel
theorem own_sh2 : ∀ n : Fin 32, ((Int32.ofNat n.val).toUInt32.toBitVec % 32#32).toNat = n.val := by decide +kernel
theorem own_here (c b : Int32) : own_off c b = f3 c (1 : Int32) (b &&& (31 : Int32)) := by
  have e : ((b &&& (31 : Int32)) &&& (31 : Int32)).toInt = (b &&& (31 : Int32)).toInt % 2 ^ 5 := Jvm.Kit.i32_mask _ 31 (k := 5) (by decide) (by decide)
  obtain ⟨n, hn, ht⟩ : ∃ n : Nat, n < 32 ∧ ((b &&& (31 : Int32)) &&& (31 : Int32)) = Int32.ofNat n := by
    refine ⟨((b &&& (31 : Int32)) &&& (31 : Int32)).toInt.toNat, by omega, Int32.toInt_inj.mp ?_⟩
    rw [Int32.toInt_ofNat_of_lt (by omega)]; omega
  have s1 : ((1 : Int32) <<< Int32.ofNat n).toBitVec = 1#32 <<< n := by
    show (1#32 <<< ((Int32.ofNat n).toBitVec.smod 32#32)) = _
    rw [own_sh ⟨n, hn⟩, BitVec.shiftLeft_eq', BitVec.toNat_ofNat, Nat.mod_eq_of_lt (by omega)]
  have s2 : ((c.toUInt32 >>> (Int32.ofNat n).toUInt32).toInt32).toBitVec = c.toBitVec >>> n := by
    show c.toBitVec >>> ((Int32.ofNat n).toUInt32.toBitVec % 32#32) = _
    rw [BitVec.ushiftRight_eq', own_sh2 ⟨n, hn⟩]
  have key := own_bv c.toBitVec n hn
  unfold own_off f3
  rw [if_neg (by decide), ht]
  apply Int32.toBitVec_inj.mp
  rw [Int32.toBitVec_and, Int32.toBitVec_xor, s1]
  show c.toBitVec &&& ((1#32 <<< n) ^^^ 4294967295#32) = _
  rw [key]
  by_cases q : (c.toBitVec >>> n) &&& 1#32 = 1#32
  · have q' : ((c.toUInt32 >>> (Int32.ofNat n).toUInt32).toInt32 &&& (1 : Int32)) = (1 : Int32) := Int32.toBitVec_inj.mp (by rw [Int32.toBitVec_and, s2]; exact q)
    rw [if_pos q, if_pos q', Int32.toBitVec_sub, s1]
  · have q' : ¬ ((c.toUInt32 >>> (Int32.ofNat n).toUInt32).toInt32 &&& (1 : Int32)) = (1 : Int32) := fun r => q (by have := congrArg Int32.toBitVec r; rw [Int32.toBitVec_and, s2] at this; exact this)
    rw [if_neg q, if_neg q']
theorem own_not (c q : Int32) : c = f3 c (0 : Int32) q := rfl
theorem ef_0 (m : MethodId) (x0 : Int32) (x1 : Int32) (x2 : Int32) (x3 : Int32) : entryFrame m #[(.int x0), (.int x1), (.int x2), (.int x3)] maxLocals = mkF m 0 #[.val (.int x0), .val (.int x1), .val (.int x2), .val (.int x3), .unset, .unset, .unset, .unset] [] := by first | (simp [entryFrame, mkF, argsToLocals, Value.category, maxLocals]; done) | rfl
def Q0 (c0 : Int32) (c1 : Int32) (c2 : Int32) (bv : Int32) (h0 : Heap) (n0 : Nat) (v : Option Value) (h : Heap) (L : List Loc) : Prop := v = some (.int (1 : Int32)) ∧ Fr n0 L
set_option maxRecDepth 65536 in
set_option maxHeartbeats 40000000 in
theorem rm0 (l : Launch) (Z : State) (aZ : Array Value) (hw : ∀ d ∈ tables_1, d.before aZ Z = true) (ws : List Jvm.Cond) (c0 : Int32) (c1 : Int32) (c2 : Int32) (bv : Int32)  (h0 : Heap) (n0 : Nat) (Z0 : n0 ≤ h0.size)  :
    MetFree l x (head1 (Jvm.Cond.code x code maxLocals ret :: ws) room_1) (fun a U => a = #[(.int c0), (.int c1), (.int c2), (.int bv)] ∧ Z.Warmed39 U.vm ∧ U.heap = h0) (fun _ _ _ _ _ => True) (fun _ U o U' => ∃ v L, o = .returned v ∧ Q0 c0 c1 c2 bv h0 n0 v U'.heap L ∧ FrameEnd U o U' L room_1.cells room_1.slots) := by
  refine MetFree.of_bodySF (plainFor_of_name pn_3) hisR ?_
  intro p e s m args below meth c s₁ Bd hml0 hP hK
  obtain ⟨rfl, hZ, hh⟩ := hP
  have hx := Bd.exec
  have hby := Bd.bytes
  have hml : c.maxLocals = 8 := hml0
  have hown : s.vm.findClass "com/example/pertinet/pertinet/explore/StateDeactivatePinLaw" = some m.cls := findClass_of_methodNamed Bd.named
  have hnm := (name_of_methodNamed Bd.named Bd.method).1
  have X0 : Stand p l e room_1 s m #[(.int c0), (.int c1), (.int c2), (.int bv)] below meth c s₁ [] 0 0 := Stand.of_body Bd
  have e0 : s₁.heap = h0 := by rw [← hh, Bd.state]; rfl
  have N0 := Fr.nil n0
  have pre0 : ∀ t, Steps p.tables e below (s₁.setTop (mkF m 0 #[.val (.int c0), .val (.int c1), .val (.int c2), .val (.int bv), .unset, .unset, .unset, .unset] [])) t → Steps p.tables e below (s₁.setTop (entryFrame m #[(.int c0), (.int c1), (.int c2), (.int bv)] maxLocals)) t := fun t k => castTop (ef_0 m c0 c1 c2 bv) k
  have pre38 : ∀ t, Steps p.tables e below (s₁.setTop (mkF m 9 #[.val (.int c0), .val (.int c1), .val (.int c2), .val (.int bv), .val (.int ((bv &&& (2147483647 : Int32)) - ((bv &&& (2147483647 : Int32)) / (96 : Int32)) * (96 : Int32))), .unset, .unset, .unset] [])) t → Steps p.tables e below (s₁.setTop (entryFrame m #[(.int c0), (.int c1), (.int c2), (.int bv)] maxLocals)) t := fun t k => by
    refine pre0 _ ?_
    show Steps p.tables e below (s₁.setTop (mkF m 0 #[.val (.int c0), .val (.int c1), .val (.int c2), .val (.int bv), .unset, .unset, .unset, .unset] [])) _
    refine XS.iloadN X0.here hx rfl (hb hby at_0) rfl ?_
    show Steps p.tables e below (s₁.setTop (mkF m 1 #[.val (.int c0), .val (.int c1), .val (.int c2), .val (.int bv), .unset, .unset, .unset, .unset] [(.int bv)])) _
    refine X0.ldcInt hx hown (mvT hZ (hw _ (List.mem_of_getElem? (i := 0) rfl))) (g := (mkF m 1 #[.val (.int c0), .val (.int c1), .val (.int c2), .val (.int bv), .unset, .unset, .unset, .unset] [(.int bv)])) rfl (hb hby at_1) _ ?_
    show Steps p.tables e below (s₁.setTop (mkF m 3 #[.val (.int c0), .val (.int c1), .val (.int c2), .val (.int bv), .unset, .unset, .unset, .unset] [(.int (2147483647 : Int32)), (.int bv)])) _
    refine XS.iand X0.here hx rfl (hb hby at_3) rfl ?_
    show Steps p.tables e below (s₁.setTop (mkF m 4 #[.val (.int c0), .val (.int c1), .val (.int c2), .val (.int bv), .unset, .unset, .unset, .unset] [(.int (bv &&& (2147483647 : Int32)))])) _
    refine XS.bipush X0.here hx rfl (hb hby at_4) ?_
    show Steps p.tables e below (s₁.setTop (mkF m 6 #[.val (.int c0), .val (.int c1), .val (.int c2), .val (.int bv), .unset, .unset, .unset, .unset] [(.int (96 : Int32)), (.int (bv &&& (2147483647 : Int32)))])) _
    refine XS.irem X0.here hx rfl (hb hby at_6) rfl (by decide) ?_
    show Steps p.tables e below (s₁.setTop (mkF m 7 #[.val (.int c0), .val (.int c1), .val (.int c2), .val (.int bv), .unset, .unset, .unset, .unset] [(.int ((bv &&& (2147483647 : Int32)) - ((bv &&& (2147483647 : Int32)) / (96 : Int32)) * (96 : Int32)))])) _
    refine XS.istore X0.here hx rfl (hb hby at_7) rfl (l' := #[.val (.int c0), .val (.int c1), .val (.int c2), .val (.int bv), .val (.int ((bv &&& (2147483647 : Int32)) - ((bv &&& (2147483647 : Int32)) / (96 : Int32)) * (96 : Int32))), .unset, .unset, .unset]) rfl ?_
    show Steps p.tables e below (s₁.setTop (mkF m 9 #[.val (.int c0), .val (.int c1), .val (.int c2), .val (.int bv), .val (.int ((bv &&& (2147483647 : Int32)) - ((bv &&& (2147483647 : Int32)) / (96 : Int32)) * (96 : Int32))), .unset, .unset, .unset] [])) _
    exact k
  obtain ⟨bit, e_bit⟩ : ∃ z : Int32, z = ((bv &&& (2147483647 : Int32)) - ((bv &&& (2147483647 : Int32)) / (96 : Int32)) * (96 : Int32)) := ⟨_, rfl⟩
  have pre39 : ∀ t, Steps p.tables e below (s₁.setTop (mkF m 9 #[.val (.int c0), .val (.int c1), .val (.int c2), .val (.int bv), .val (.int bit), .unset, .unset, .unset] [])) t → Steps p.tables e below (s₁.setTop (entryFrame m #[(.int c0), (.int c1), (.int c2), (.int bv)] maxLocals)) t := by rw [e_bit]; exact pre38
  have hbd := own_bit bv
  rw [← e_bit] at hbd
  have hi := own_idx bit hbd.1 hbd.2
  have hp := own_pos bit hbd.1 hbd.2
  have pre40 : ∀ t, Steps p.tables e below (s₁.setTop (mkF m 10 #[.val (.int c0), .val (.int c1), .val (.int c2), .val (.int bv), .val (.int bit), .unset, .unset, .unset] [(.int (3 : Int32))])) t → Steps p.tables e below (s₁.setTop (entryFrame m #[(.int c0), (.int c1), (.int c2), (.int bv)] maxLocals)) t := fun t k => by
    refine pre39 _ ?_
    show Steps p.tables e below (s₁.setTop (mkF m 9 #[.val (.int c0), .val (.int c1), .val (.int c2), .val (.int bv), .val (.int bit), .unset, .unset, .unset] [])) _
    refine XS.iconst X0.here hx rfl (hb hby at_9) ?_
    show Steps p.tables e below (s₁.setTop (mkF m 10 #[.val (.int c0), .val (.int c1), .val (.int c2), .val (.int bv), .val (.int bit), .unset, .unset, .unset] [(.int (3 : Int32))])) _
    exact k
  obtain ⟨T41, h41, k41, X41, e41, E41, A41, st41⟩ := newP X0 hx hZ (hw _ (List.mem_of_getElem? (i := 1) rfl)) e0 (g := (mkF m 10 #[.val (.int c0), .val (.int c1), .val (.int c2), .val (.int bv), .val (.int bit), .unset, .unset, .unset] [(.int (3 : Int32))])) rfl (hb hby at_10) rfl (by decide) (cap := 3) (by decide) (by decide) (by decide) (by decide)
  obtain ⟨b41, g41⟩ : ∃ z, z = h0.size := ⟨_, rfl⟩
  have g_b41 : n0 ≤ b41 := Nat.le_trans Z0 (Nat.le_of_eq g41.symm)
  have sz_b41 : h0.size ≤ b41 := Nat.le_of_eq g41.symm
  rw [← g41] at A41 st41
  have Zs41 : n0 ≤ h41.size := Nat.le_trans Z0 E41.1
  have K0 := Keep.refl h0 []
  have K41 := K0.ext E41
  have V_b41 : Arv Z h41 b41 k41 .int (3 : Int32) [(.int (0 : Int32)), (.int (0 : Int32)), (.int (0 : Int32))] (.int (0 : Int32)) := (Arv.new A41 (by decide)).pad (pad_rep [] (.int (0 : Int32)) 3)
  have pre41 : ∀ t, Steps p.tables e below (T41.setTop (mkF m 12 #[.val (.int c0), .val (.int c1), .val (.int c2), .val (.int bv), .val (.int bit), .unset, .unset, .unset] [(.ref b41)])) t → Steps p.tables e below (s₁.setTop (entryFrame m #[(.int c0), (.int c1), (.int c2), (.int bv)] maxLocals)) t := fun t k => pre40 _ (st41 t k)
  have pre42 : ∀ t, Steps p.tables e below (T41.setTop (mkF m 18 #[.val (.int c0), .val (.int c1), .val (.int c2), .val (.int bv), .val (.int bit), .val (.ref b41), .unset, .unset] [(.int c0), (.int (0 : Int32)), (.ref b41)])) t → Steps p.tables e below (s₁.setTop (entryFrame m #[(.int c0), (.int c1), (.int c2), (.int bv)] maxLocals)) t := fun t k => by
    refine pre41 _ ?_
    show Steps p.tables e below (T41.setTop (mkF m 12 #[.val (.int c0), .val (.int c1), .val (.int c2), .val (.int bv), .val (.int bit), .unset, .unset, .unset] [(.ref b41)])) _
    refine XS.astore X41.here hx rfl (hb hby at_12) rfl rfl (l' := #[.val (.int c0), .val (.int c1), .val (.int c2), .val (.int bv), .val (.int bit), .val (.ref b41), .unset, .unset]) rfl ?_
    show Steps p.tables e below (T41.setTop (mkF m 14 #[.val (.int c0), .val (.int c1), .val (.int c2), .val (.int bv), .val (.int bit), .val (.ref b41), .unset, .unset] [])) _
    refine XS.aload X41.here hx rfl (hb hby at_14) rfl rfl ?_
    show Steps p.tables e below (T41.setTop (mkF m 16 #[.val (.int c0), .val (.int c1), .val (.int c2), .val (.int bv), .val (.int bit), .val (.ref b41), .unset, .unset] [(.ref b41)])) _
    refine XS.iconst X41.here hx rfl (hb hby at_16) ?_
    show Steps p.tables e below (T41.setTop (mkF m 17 #[.val (.int c0), .val (.int c1), .val (.int c2), .val (.int bv), .val (.int bit), .val (.ref b41), .unset, .unset] [(.int (0 : Int32)), (.ref b41)])) _
    refine XS.iloadN X41.here hx rfl (hb hby at_17) rfl ?_
    show Steps p.tables e below (T41.setTop (mkF m 18 #[.val (.int c0), .val (.int c1), .val (.int c2), .val (.int bv), .val (.int bit), .val (.ref b41), .unset, .unset] [(.int c0), (.int (0 : Int32)), (.ref b41)])) _
    exact k
  have Vo_b41_43 := V_b41
  obtain ⟨cl_b41_43, Ar_b41_43, q_b41_43, S_b41_43, M_b41_43, H_b41_43, G_b41_43⟩ := Vo_b41_43
  have hin43 : ¬ ((0 : Int32) < 0 ∨ cl_b41_43.slots.size ≤ ((0 : Int32)).toNatClampNeg) := inb_of S_b41_43 ⟨by decide, by decide⟩
  obtain ⟨T43, h43, X43, e43, W43, st43⟩ := stI X41 hx hZ e41 Ar_b41_43 (j := (0 : Int32)) hin43 (g := (mkF m 18 #[.val (.int c0), .val (.int c1), .val (.int c2), .val (.int bv), .val (.int bit), .val (.ref b41), .unset, .unset] [(.int c0), (.int (0 : Int32)), (.ref b41)])) rfl rfl (hb hby at_18)
  have V43_b41 := Arv.set Ar_b41_43 q_b41_43 S_b41_43 M_b41_43 H_b41_43 G_b41_43 rfl W43 0 rfl (Nat.le_of_ble_eq_true rfl)
  have F43_0 := V43_b41
  have Zs43 : n0 ≤ h43.size := Nat.le_trans Zs41 (Keep.of_wr W43).1
  have K43 := K41.wr W43 (Or.inr sz_b41)
  have N43 := Fr.snoc X43 N0 g_b41
  have pre43 : ∀ t, Steps p.tables e below (T43.setTop (mkF m 19 #[.val (.int c0), .val (.int c1), .val (.int c2), .val (.int bv), .val (.int bit), .val (.ref b41), .unset, .unset] [])) t → Steps p.tables e below (s₁.setTop (entryFrame m #[(.int c0), (.int c1), (.int c2), (.int bv)] maxLocals)) t := fun t k => pre42 _ (st43 t k)
  have pre44 : ∀ t, Steps p.tables e below (T43.setTop (mkF m 23 #[.val (.int c0), .val (.int c1), .val (.int c2), .val (.int bv), .val (.int bit), .val (.ref b41), .unset, .unset] [(.int c1), (.int (1 : Int32)), (.ref b41)])) t → Steps p.tables e below (s₁.setTop (entryFrame m #[(.int c0), (.int c1), (.int c2), (.int bv)] maxLocals)) t := fun t k => by
    refine pre43 _ ?_
    show Steps p.tables e below (T43.setTop (mkF m 19 #[.val (.int c0), .val (.int c1), .val (.int c2), .val (.int bv), .val (.int bit), .val (.ref b41), .unset, .unset] [])) _
    refine XS.aload X43.here hx rfl (hb hby at_19) rfl rfl ?_
    show Steps p.tables e below (T43.setTop (mkF m 21 #[.val (.int c0), .val (.int c1), .val (.int c2), .val (.int bv), .val (.int bit), .val (.ref b41), .unset, .unset] [(.ref b41)])) _
    refine XS.iconst X43.here hx rfl (hb hby at_21) ?_
    show Steps p.tables e below (T43.setTop (mkF m 22 #[.val (.int c0), .val (.int c1), .val (.int c2), .val (.int bv), .val (.int bit), .val (.ref b41), .unset, .unset] [(.int (1 : Int32)), (.ref b41)])) _
    refine XS.iloadN X43.here hx rfl (hb hby at_22) rfl ?_
    show Steps p.tables e below (T43.setTop (mkF m 23 #[.val (.int c0), .val (.int c1), .val (.int c2), .val (.int bv), .val (.int bit), .val (.ref b41), .unset, .unset] [(.int c1), (.int (1 : Int32)), (.ref b41)])) _
    exact k
  have Vo_b41_45 := F43_0
  obtain ⟨cl_b41_45, Ar_b41_45, q_b41_45, S_b41_45, M_b41_45, H_b41_45, G_b41_45⟩ := Vo_b41_45
  have hin45 : ¬ ((1 : Int32) < 0 ∨ cl_b41_45.slots.size ≤ ((1 : Int32)).toNatClampNeg) := inb_of S_b41_45 ⟨by decide, by decide⟩
  obtain ⟨T45, h45, X45, e45, W45, st45⟩ := stI X43 hx hZ e43 Ar_b41_45 (j := (1 : Int32)) hin45 (g := (mkF m 23 #[.val (.int c0), .val (.int c1), .val (.int c2), .val (.int bv), .val (.int bit), .val (.ref b41), .unset, .unset] [(.int c1), (.int (1 : Int32)), (.ref b41)])) rfl rfl (hb hby at_23)
  have V45_b41 := Arv.set Ar_b41_45 q_b41_45 S_b41_45 M_b41_45 H_b41_45 G_b41_45 rfl W45 1 rfl (Nat.le_of_ble_eq_true rfl)
  have F45_0 := V45_b41
  have Zs45 : n0 ≤ h45.size := Nat.le_trans Zs43 (Keep.of_wr W45).1
  have K45 := K43.wr W45 (Or.inr sz_b41)
  have N45 := Fr.snoc X45 N43 g_b41
  have pre45 : ∀ t, Steps p.tables e below (T45.setTop (mkF m 24 #[.val (.int c0), .val (.int c1), .val (.int c2), .val (.int bv), .val (.int bit), .val (.ref b41), .unset, .unset] [])) t → Steps p.tables e below (s₁.setTop (entryFrame m #[(.int c0), (.int c1), (.int c2), (.int bv)] maxLocals)) t := fun t k => pre44 _ (st45 t k)
  have pre46 : ∀ t, Steps p.tables e below (T45.setTop (mkF m 28 #[.val (.int c0), .val (.int c1), .val (.int c2), .val (.int bv), .val (.int bit), .val (.ref b41), .unset, .unset] [(.int c2), (.int (2 : Int32)), (.ref b41)])) t → Steps p.tables e below (s₁.setTop (entryFrame m #[(.int c0), (.int c1), (.int c2), (.int bv)] maxLocals)) t := fun t k => by
    refine pre45 _ ?_
    show Steps p.tables e below (T45.setTop (mkF m 24 #[.val (.int c0), .val (.int c1), .val (.int c2), .val (.int bv), .val (.int bit), .val (.ref b41), .unset, .unset] [])) _
    refine XS.aload X45.here hx rfl (hb hby at_24) rfl rfl ?_
    show Steps p.tables e below (T45.setTop (mkF m 26 #[.val (.int c0), .val (.int c1), .val (.int c2), .val (.int bv), .val (.int bit), .val (.ref b41), .unset, .unset] [(.ref b41)])) _
    refine XS.iconst X45.here hx rfl (hb hby at_26) ?_
    show Steps p.tables e below (T45.setTop (mkF m 27 #[.val (.int c0), .val (.int c1), .val (.int c2), .val (.int bv), .val (.int bit), .val (.ref b41), .unset, .unset] [(.int (2 : Int32)), (.ref b41)])) _
    refine XS.iloadN X45.here hx rfl (hb hby at_27) rfl ?_
    show Steps p.tables e below (T45.setTop (mkF m 28 #[.val (.int c0), .val (.int c1), .val (.int c2), .val (.int bv), .val (.int bit), .val (.ref b41), .unset, .unset] [(.int c2), (.int (2 : Int32)), (.ref b41)])) _
    exact k
  have Vo_b41_47 := F45_0
  obtain ⟨cl_b41_47, Ar_b41_47, q_b41_47, S_b41_47, M_b41_47, H_b41_47, G_b41_47⟩ := Vo_b41_47
  have hin47 : ¬ ((2 : Int32) < 0 ∨ cl_b41_47.slots.size ≤ ((2 : Int32)).toNatClampNeg) := inb_of S_b41_47 ⟨by decide, by decide⟩
  obtain ⟨T47, h47, X47, e47, W47, st47⟩ := stI X45 hx hZ e45 Ar_b41_47 (j := (2 : Int32)) hin47 (g := (mkF m 28 #[.val (.int c0), .val (.int c1), .val (.int c2), .val (.int bv), .val (.int bit), .val (.ref b41), .unset, .unset] [(.int c2), (.int (2 : Int32)), (.ref b41)])) rfl rfl (hb hby at_28)
  have V47_b41 := Arv.set Ar_b41_47 q_b41_47 S_b41_47 M_b41_47 H_b41_47 G_b41_47 rfl W47 2 rfl (Nat.le_of_ble_eq_true rfl)
  have F47_0 := V47_b41
  have Zs47 : n0 ≤ h47.size := Nat.le_trans Zs45 (Keep.of_wr W47).1
  have K47 := K45.wr W47 (Or.inr sz_b41)
  have N47 := Fr.snoc X47 N45 g_b41
  have pre47 : ∀ t, Steps p.tables e below (T47.setTop (mkF m 29 #[.val (.int c0), .val (.int c1), .val (.int c2), .val (.int bv), .val (.int bit), .val (.ref b41), .unset, .unset] [])) t → Steps p.tables e below (s₁.setTop (entryFrame m #[(.int c0), (.int c1), (.int c2), (.int bv)] maxLocals)) t := fun t k => pre46 _ (st47 t k)
  have pre48 : ∀ t, Steps p.tables e below (T47.setTop (mkF m 33 #[.val (.int c0), .val (.int c1), .val (.int c2), .val (.int bv), .val (.int bit), .val (.ref b41), .unset, .unset] [(.int bit), (.ref b41)])) t → Steps p.tables e below (s₁.setTop (entryFrame m #[(.int c0), (.int c1), (.int c2), (.int bv)] maxLocals)) t := fun t k => by
    refine pre47 _ ?_
    show Steps p.tables e below (T47.setTop (mkF m 29 #[.val (.int c0), .val (.int c1), .val (.int c2), .val (.int bv), .val (.int bit), .val (.ref b41), .unset, .unset] [])) _
    refine XS.aload X47.here hx rfl (hb hby at_29) rfl rfl ?_
    show Steps p.tables e below (T47.setTop (mkF m 31 #[.val (.int c0), .val (.int c1), .val (.int c2), .val (.int bv), .val (.int bit), .val (.ref b41), .unset, .unset] [(.ref b41)])) _
    refine XS.iload X47.here hx rfl (hb hby at_31) rfl ?_
    show Steps p.tables e below (T47.setTop (mkF m 33 #[.val (.int c0), .val (.int c1), .val (.int c2), .val (.int bv), .val (.int bit), .val (.ref b41), .unset, .unset] [(.int bit), (.ref b41)])) _
    exact k
  have h3 : f2 bit = (0 : Int32) ∨ f2 bit = (1 : Int32) ∨ f2 bit = (2 : Int32) := by
    have k0 : (0 : Int32).toInt = 0 := by decide
    have k1 : (1 : Int32).toInt = 1 := by decide
    have k2 : (2 : Int32).toInt = 2 := by decide
    simp only [← Int32.toInt_inj, k0, k1, k2]
    have := hi.2
    omega
  rcases h3 with hidx | hidx | hidx
  · have hdv : bit / (32 : Int32) = (0 : Int32) := hi.1.trans hidx
    obtain ⟨_, _, ⟨T50, L50, k50, n50⟩, -, X50, ⟨Lc50, hQ50, l50, y50, z50⟩, st50⟩ := Jvm.LawKit.callS X47 hx (y := (⟨"com/example/pertinet/pertinet/explore/State", "deactivate", "([II)V"⟩ : MethodName)) hown (mvT hZ (hw _ (List.mem_of_getElem? (i := 2) rfl))) (mvT hZ (hw _ (List.mem_of_getElem? (i := 3) rfl))) (mvT hZ (hw _ (List.mem_of_getElem? (i := 4) rfl))) (mvT hZ (hw _ (List.mem_of_getElem? (i := 5) rfl))) (by decide) (backOf (W := 0) (rm1_0 l Z aZ hw [] b41 bit k41 c0 c1 c2 h47 n0 Zs47 F47_0 g_b41 hidx) hZ (hw _ (List.mem_of_getElem? (i := 5) rfl)) (hw _ (List.mem_of_getElem? (i := 4) rfl)) (by decide) (by decide)) (g := (mkF m 33 #[.val (.int c0), .val (.int c1), .val (.int c2), .val (.int bv), .val (.int bit), .val (.ref b41), .unset, .unset] [(.int bit), (.ref b41)])) rfl (by rw [hml]; rfl) (argsL := [(.ref b41), (.int bit)]) (rest := []) (lenOf pd_0 rfl) rfl (by show 2 * 0 + _ ≤ _; exact Nat.le_of_eq rfl) (hb hby at_33) (fun _ _ => ⟨rfl, e47, (by decide : 1 + 0 ≤ _), (by decide : 3 + 0 ≤ _)⟩)
    dsimp only [Pt.U, Pt.locs, Pt.cells, Pt.slots] at X50 l50 y50 z50 st50 hQ50
    subst l50 y50 z50
    obtain ⟨rfl, N50q, Kc50, Vc50⟩ := hQ50
    have N50 := Fr.app N47 N50q
    have pre50 : ∀ t, Steps p.tables e below (T50.setTop (mkF m 36 #[.val (.int c0), .val (.int c1), .val (.int c2), .val (.int bv), .val (.int bit), .val (.ref b41), .unset, .unset] [])) t → Steps p.tables e below (s₁.setTop (entryFrame m #[(.int c0), (.int c1), (.int c2), (.int bv)] maxLocals)) t := fun t k => pre48 _ (st50 t k)
    have Zs50 : n0 ≤ T50.heap.size := Nat.le_trans Zs47 Kc50.1
    have K50 := K47.trans Kc50 (by intro x hx; simp only [List.mem_cons, List.not_mem_nil, or_false] at hx; rcases hx with rfl <;> first | exact Or.inr sz_b41)
    have pre51 : ∀ t, Steps p.tables e below (T50.setTop (mkF m 50 #[.val (.int c0), .val (.int c1), .val (.int c2), .val (.int bv), .val (.int bit), .val (.ref b41), .val (.int (bit / (32 : Int32))), .val (.int (bit - (bit / (32 : Int32)) * (32 : Int32)))] [])) t → Steps p.tables e below (s₁.setTop (entryFrame m #[(.int c0), (.int c1), (.int c2), (.int bv)] maxLocals)) t := fun t k => by
      refine pre50 _ ?_
      show Steps p.tables e below (T50.setTop (mkF m 36 #[.val (.int c0), .val (.int c1), .val (.int c2), .val (.int bv), .val (.int bit), .val (.ref b41), .unset, .unset] [])) _
      refine XS.iload X50.here hx rfl (hb hby at_36) rfl ?_
      show Steps p.tables e below (T50.setTop (mkF m 38 #[.val (.int c0), .val (.int c1), .val (.int c2), .val (.int bv), .val (.int bit), .val (.ref b41), .unset, .unset] [(.int bit)])) _
      refine XS.bipush X50.here hx rfl (hb hby at_38) ?_
      show Steps p.tables e below (T50.setTop (mkF m 40 #[.val (.int c0), .val (.int c1), .val (.int c2), .val (.int bv), .val (.int bit), .val (.ref b41), .unset, .unset] [(.int (32 : Int32)), (.int bit)])) _
      refine XS.idiv X50.here hx rfl (hb hby at_40) rfl (by decide) ?_
      show Steps p.tables e below (T50.setTop (mkF m 41 #[.val (.int c0), .val (.int c1), .val (.int c2), .val (.int bv), .val (.int bit), .val (.ref b41), .unset, .unset] [(.int (bit / (32 : Int32)))])) _
      refine XS.istore X50.here hx rfl (hb hby at_41) rfl (l' := #[.val (.int c0), .val (.int c1), .val (.int c2), .val (.int bv), .val (.int bit), .val (.ref b41), .val (.int (bit / (32 : Int32))), .unset]) rfl ?_
      show Steps p.tables e below (T50.setTop (mkF m 43 #[.val (.int c0), .val (.int c1), .val (.int c2), .val (.int bv), .val (.int bit), .val (.ref b41), .val (.int (bit / (32 : Int32))), .unset] [])) _
      refine XS.iload X50.here hx rfl (hb hby at_43) rfl ?_
      show Steps p.tables e below (T50.setTop (mkF m 45 #[.val (.int c0), .val (.int c1), .val (.int c2), .val (.int bv), .val (.int bit), .val (.ref b41), .val (.int (bit / (32 : Int32))), .unset] [(.int bit)])) _
      refine XS.bipush X50.here hx rfl (hb hby at_45) ?_
      show Steps p.tables e below (T50.setTop (mkF m 47 #[.val (.int c0), .val (.int c1), .val (.int c2), .val (.int bv), .val (.int bit), .val (.ref b41), .val (.int (bit / (32 : Int32))), .unset] [(.int (32 : Int32)), (.int bit)])) _
      refine XS.irem X50.here hx rfl (hb hby at_47) rfl (by decide) ?_
      show Steps p.tables e below (T50.setTop (mkF m 48 #[.val (.int c0), .val (.int c1), .val (.int c2), .val (.int bv), .val (.int bit), .val (.ref b41), .val (.int (bit / (32 : Int32))), .unset] [(.int (bit - (bit / (32 : Int32)) * (32 : Int32)))])) _
      refine XS.istore X50.here hx rfl (hb hby at_48) rfl (l' := #[.val (.int c0), .val (.int c1), .val (.int c2), .val (.int bv), .val (.int bit), .val (.ref b41), .val (.int (bit / (32 : Int32))), .val (.int (bit - (bit / (32 : Int32)) * (32 : Int32)))]) rfl ?_
      show Steps p.tables e below (T50.setTop (mkF m 50 #[.val (.int c0), .val (.int c1), .val (.int c2), .val (.int bv), .val (.int bit), .val (.ref b41), .val (.int (bit / (32 : Int32))), .val (.int (bit - (bit / (32 : Int32)) * (32 : Int32)))] [])) _
      exact k
    have pre52 : ∀ t, Steps p.tables e below (T50.setTop (mkF m 50 #[.val (.int c0), .val (.int c1), .val (.int c2), .val (.int bv), .val (.int bit), .val (.ref b41), .val (.int (bit / (32 : Int32))), .val (.int (bit &&& (31 : Int32)))] [])) t → Steps p.tables e below (s₁.setTop (entryFrame m #[(.int c0), (.int c1), (.int c2), (.int bv)] maxLocals)) t := by
      have q := pre51
      rw [hp] at q
      exact q
    have pre53 : ∀ t, Steps p.tables e below (T50.setTop (mkF m 50 #[.val (.int c0), .val (.int c1), .val (.int c2), .val (.int bv), .val (.int bit), .val (.ref b41), .val (.int (0 : Int32)), .val (.int (bit &&& (31 : Int32)))] [])) t → Steps p.tables e below (s₁.setTop (entryFrame m #[(.int c0), (.int c1), (.int c2), (.int bv)] maxLocals)) t := by
      have q := pre52
      rw [hdv] at q
      exact q
    have pre54 : ∀ t, Steps p.tables e below (T50.setTop (mkF m 53 #[.val (.int c0), .val (.int c1), .val (.int c2), .val (.int bv), .val (.int bit), .val (.ref b41), .val (.int (0 : Int32)), .val (.int (bit &&& (31 : Int32)))] [(.int (0 : Int32)), (.ref b41)])) t → Steps p.tables e below (s₁.setTop (entryFrame m #[(.int c0), (.int c1), (.int c2), (.int bv)] maxLocals)) t := fun t k => by
      refine pre53 _ ?_
      show Steps p.tables e below (T50.setTop (mkF m 50 #[.val (.int c0), .val (.int c1), .val (.int c2), .val (.int bv), .val (.int bit), .val (.ref b41), .val (.int (0 : Int32)), .val (.int (bit &&& (31 : Int32)))] [])) _
      refine XS.aload X50.here hx rfl (hb hby at_50) rfl rfl ?_
      show Steps p.tables e below (T50.setTop (mkF m 52 #[.val (.int c0), .val (.int c1), .val (.int c2), .val (.int bv), .val (.int bit), .val (.ref b41), .val (.int (0 : Int32)), .val (.int (bit &&& (31 : Int32)))] [(.ref b41)])) _
      refine XS.iconst X50.here hx rfl (hb hby at_52) ?_
      show Steps p.tables e below (T50.setTop (mkF m 53 #[.val (.int c0), .val (.int c1), .val (.int c2), .val (.int bv), .val (.int bit), .val (.ref b41), .val (.int (0 : Int32)), .val (.int (bit &&& (31 : Int32)))] [(.int (0 : Int32)), (.ref b41)])) _
      exact k
    have Vo_b41_55 := Vc50
    obtain ⟨cl_b41_55, Ar_b41_55, q_b41_55, S_b41_55, M_b41_55, H_b41_55, G_b41_55⟩ := Vo_b41_55
    have hin55 : ¬ ((0 : Int32) < 0 ∨ cl_b41_55.slots.size ≤ ((0 : Int32)).toNatClampNeg) := inb_of S_b41_55 ⟨by decide, by decide⟩
    have hat55 : cl_b41_55.slots[((0 : Int32)).toNatClampNeg]? = some (.int (own_off c0 bit)) := H_b41_55.at hin55 rfl
    have pre56 : ∀ t, Steps p.tables e below (T50.setTop (mkF m 54 #[.val (.int c0), .val (.int c1), .val (.int c2), .val (.int bv), .val (.int bit), .val (.ref b41), .val (.int (0 : Int32)), .val (.int (bit &&& (31 : Int32)))] [(.int (own_off c0 bit))])) t → Steps p.tables e below (s₁.setTop (entryFrame m #[(.int c0), (.int c1), (.int c2), (.int bv)] maxLocals)) t := fun t k => pre54 _ (X50.iaload hx (j := (0 : Int32)) (v := (.int (own_off c0 bit))) Ar_b41_55.1 (State.isArrayOf_alike hZ.alike Ar_b41_55.2.1) Ar_b41_55.2.2 hin55 hat55 (g := (mkF m 53 #[.val (.int c0), .val (.int c1), .val (.int c2), .val (.int bv), .val (.int bit), .val (.ref b41), .val (.int (0 : Int32)), .val (.int (bit &&& (31 : Int32)))] [(.int (0 : Int32)), (.ref b41)])) rfl rfl (hb hby at_53) t k)
    have pre57 : ∀ t, Steps p.tables e below (T50.setTop (mkF m 57 #[.val (.int c0), .val (.int c1), .val (.int c2), .val (.int bv), .val (.int bit), .val (.ref b41), .val (.int (0 : Int32)), .val (.int (bit &&& (31 : Int32)))] [(.int (0 : Int32)), (.int c0), (.int (own_off c0 bit))])) t → Steps p.tables e below (s₁.setTop (entryFrame m #[(.int c0), (.int c1), (.int c2), (.int bv)] maxLocals)) t := fun t k => by
      refine pre56 _ ?_
      show Steps p.tables e below (T50.setTop (mkF m 54 #[.val (.int c0), .val (.int c1), .val (.int c2), .val (.int bv), .val (.int bit), .val (.ref b41), .val (.int (0 : Int32)), .val (.int (bit &&& (31 : Int32)))] [(.int (own_off c0 bit))])) _
      refine XS.iloadN X50.here hx rfl (hb hby at_54) rfl ?_
      show Steps p.tables e below (T50.setTop (mkF m 55 #[.val (.int c0), .val (.int c1), .val (.int c2), .val (.int bv), .val (.int bit), .val (.ref b41), .val (.int (0 : Int32)), .val (.int (bit &&& (31 : Int32)))] [(.int c0), (.int (own_off c0 bit))])) _
      refine XS.iload X50.here hx rfl (hb hby at_55) rfl ?_
      show Steps p.tables e below (T50.setTop (mkF m 57 #[.val (.int c0), .val (.int c1), .val (.int c2), .val (.int bv), .val (.int bit), .val (.ref b41), .val (.int (0 : Int32)), .val (.int (bit &&& (31 : Int32)))] [(.int (0 : Int32)), (.int c0), (.int (own_off c0 bit))])) _
      exact k
    have pre58 : ∀ t, Steps p.tables e below (T50.setTop (mkF m 60 #[.val (.int c0), .val (.int c1), .val (.int c2), .val (.int bv), .val (.int bit), .val (.ref b41), .val (.int (0 : Int32)), .val (.int (bit &&& (31 : Int32)))] [(.int c0), (.int (own_off c0 bit))])) t → Steps p.tables e below (s₁.setTop (entryFrame m #[(.int c0), (.int c1), (.int c2), (.int bv)] maxLocals)) t := fun t k => by
      refine pre57 _ ?_
      show Steps p.tables e below (T50.setTop (mkF m 57 #[.val (.int c0), .val (.int c1), .val (.int c2), .val (.int bv), .val (.int bit), .val (.ref b41), .val (.int (0 : Int32)), .val (.int (bit &&& (31 : Int32)))] [(.int (0 : Int32)), (.int c0), (.int (own_off c0 bit))])) _
      refine XS.ifNo X50.here hx rfl (hb hby at_57) rfl ((if0 _ _).trans (teq (by decide : (0 : Int32) = (0 : Int32))).2) ?_
      show Steps p.tables e below (T50.setTop (mkF m 60 #[.val (.int c0), .val (.int c1), .val (.int c2), .val (.int bv), .val (.int bit), .val (.ref b41), .val (.int (0 : Int32)), .val (.int (bit &&& (31 : Int32)))] [(.int c0), (.int (own_off c0 bit))])) _
      exact k
    have pre59 : ∀ t, Steps p.tables e below (T50.setTop (mkF m 67 #[.val (.int c0), .val (.int c1), .val (.int c2), .val (.int bv), .val (.int bit), .val (.ref b41), .val (.int (0 : Int32)), .val (.int (bit &&& (31 : Int32)))] [(.int (bit &&& (31 : Int32))), (.int (1 : Int32)), (.int c0), (.int (own_off c0 bit))])) t → Steps p.tables e below (s₁.setTop (entryFrame m #[(.int c0), (.int c1), (.int c2), (.int bv)] maxLocals)) t := fun t k => by
      refine pre58 _ ?_
      show Steps p.tables e below (T50.setTop (mkF m 60 #[.val (.int c0), .val (.int c1), .val (.int c2), .val (.int bv), .val (.int bit), .val (.ref b41), .val (.int (0 : Int32)), .val (.int (bit &&& (31 : Int32)))] [(.int c0), (.int (own_off c0 bit))])) _
      refine XS.iconst X50.here hx rfl (hb hby at_60) ?_
      show Steps p.tables e below (T50.setTop (mkF m 61 #[.val (.int c0), .val (.int c1), .val (.int c2), .val (.int bv), .val (.int bit), .val (.ref b41), .val (.int (0 : Int32)), .val (.int (bit &&& (31 : Int32)))] [(.int (1 : Int32)), (.int c0), (.int (own_off c0 bit))])) _
      refine XS.goto X50.here hx rfl (pc0 := 61) (pc' := 65) rfl (hb hby at_61) (by decide) (by decide) ?_
      show Steps p.tables e below (T50.setTop (mkF m 65 #[.val (.int c0), .val (.int c1), .val (.int c2), .val (.int bv), .val (.int bit), .val (.ref b41), .val (.int (0 : Int32)), .val (.int (bit &&& (31 : Int32)))] [(.int (1 : Int32)), (.int c0), (.int (own_off c0 bit))])) _
      refine XS.iload X50.here hx rfl (hb hby at_65) rfl ?_
      show Steps p.tables e below (T50.setTop (mkF m 67 #[.val (.int c0), .val (.int c1), .val (.int c2), .val (.int bv), .val (.int bit), .val (.ref b41), .val (.int (0 : Int32)), .val (.int (bit &&& (31 : Int32)))] [(.int (bit &&& (31 : Int32))), (.int (1 : Int32)), (.int c0), (.int (own_off c0 bit))])) _
      exact k
    obtain ⟨_, _, ⟨T60, L60, k60, n60⟩, -, X60, ⟨Lc60, hQ60, l60, y60, z60⟩, st60⟩ := Jvm.LawKit.callS X50 hx (y := (⟨"com/example/pertinet/pertinet/explore/StateDeactivatePinLaw", "expect", "(IZI)I"⟩ : MethodName)) hown (mvT hZ (hw _ (List.mem_of_getElem? (i := 9) rfl))) (mvT hZ (hw _ (List.mem_of_getElem? (i := 10) rfl))) (mvT hZ (hw _ (List.mem_of_getElem? (i := 11) rfl))) (mvT hZ (hw _ (List.mem_of_getElem? (i := 12) rfl))) (by decide) (backOf (W := 1) (rm3 l Z aZ hw [] c0 (1 : Int32) (bit &&& (31 : Int32))  T50.heap n0 Zs50 ) hZ (hw _ (List.mem_of_getElem? (i := 12) rfl)) (hw _ (List.mem_of_getElem? (i := 11) rfl)) (by decide) (by decide)) (g := (mkF m 67 #[.val (.int c0), .val (.int c1), .val (.int c2), .val (.int bv), .val (.int bit), .val (.ref b41), .val (.int (0 : Int32)), .val (.int (bit &&& (31 : Int32)))] [(.int (bit &&& (31 : Int32))), (.int (1 : Int32)), (.int c0), (.int (own_off c0 bit))])) rfl (by rw [hml]; rfl) (argsL := [(.int c0), (.int (1 : Int32)), (.int (bit &&& (31 : Int32)))]) (rest := [(.int (own_off c0 bit))]) (lenOf pd_2 rfl) rfl (by show 2 * 0 + _ ≤ _; exact Nat.le_of_eq rfl) (hb hby at_67) (fun _ _ => ⟨rfl, rfl, (by decide : 1 + 0 ≤ _), (by decide : 3 + 0 ≤ _)⟩)
    dsimp only [Pt.U, Pt.locs, Pt.cells, Pt.slots] at X60 l60 y60 z60 st60 hQ60
    subst l60 y60 z60
    obtain ⟨rfl, N60q, e60⟩ := hQ60
    have N60 := Fr.app N50 N60q
    have pre60 : ∀ t, Steps p.tables e below (T60.setTop (mkF m 70 #[.val (.int c0), .val (.int c1), .val (.int c2), .val (.int bv), .val (.int bit), .val (.ref b41), .val (.int (0 : Int32)), .val (.int (bit &&& (31 : Int32)))] [(.int (f3 c0 (1 : Int32) (bit &&& (31 : Int32)))), (.int (own_off c0 bit))])) t → Steps p.tables e below (s₁.setTop (entryFrame m #[(.int c0), (.int c1), (.int c2), (.int bv)] maxLocals)) t := fun t k => pre59 _ (st60 t k)
    have pre62 : ∀ t, Steps p.tables e below (T60.setTop (mkF m 73 #[.val (.int c0), .val (.int c1), .val (.int c2), .val (.int bv), .val (.int bit), .val (.ref b41), .val (.int (0 : Int32)), .val (.int (bit &&& (31 : Int32)))] [])) t → Steps p.tables e below (s₁.setTop (entryFrame m #[(.int c0), (.int c1), (.int c2), (.int bv)] maxLocals)) t := fun t k => by
      refine pre60 _ ?_
      show Steps p.tables e below (T60.setTop (mkF m 70 #[.val (.int c0), .val (.int c1), .val (.int c2), .val (.int bv), .val (.int bit), .val (.ref b41), .val (.int (0 : Int32)), .val (.int (bit &&& (31 : Int32)))] [(.int (f3 c0 (1 : Int32) (bit &&& (31 : Int32)))), (.int (own_off c0 bit))])) _
      refine XS.icmpNo X60.here hx rfl (hb hby at_70) rfl (teq (own_here _ _)).2 ?_
      show Steps p.tables e below (T60.setTop (mkF m 73 #[.val (.int c0), .val (.int c1), .val (.int c2), .val (.int bv), .val (.int bit), .val (.ref b41), .val (.int (0 : Int32)), .val (.int (bit &&& (31 : Int32)))] [])) _
      exact k
    have pre63 : ∀ t, Steps p.tables e below (T60.setTop (mkF m 76 #[.val (.int c0), .val (.int c1), .val (.int c2), .val (.int bv), .val (.int bit), .val (.ref b41), .val (.int (0 : Int32)), .val (.int (bit &&& (31 : Int32)))] [(.int (1 : Int32)), (.ref b41)])) t → Steps p.tables e below (s₁.setTop (entryFrame m #[(.int c0), (.int c1), (.int c2), (.int bv)] maxLocals)) t := fun t k => by
      refine pre62 _ ?_
      show Steps p.tables e below (T60.setTop (mkF m 73 #[.val (.int c0), .val (.int c1), .val (.int c2), .val (.int bv), .val (.int bit), .val (.ref b41), .val (.int (0 : Int32)), .val (.int (bit &&& (31 : Int32)))] [])) _
      refine XS.aload X60.here hx rfl (hb hby at_73) rfl rfl ?_
      show Steps p.tables e below (T60.setTop (mkF m 75 #[.val (.int c0), .val (.int c1), .val (.int c2), .val (.int bv), .val (.int bit), .val (.ref b41), .val (.int (0 : Int32)), .val (.int (bit &&& (31 : Int32)))] [(.ref b41)])) _
      refine XS.iconst X60.here hx rfl (hb hby at_75) ?_
      show Steps p.tables e below (T60.setTop (mkF m 76 #[.val (.int c0), .val (.int c1), .val (.int c2), .val (.int bv), .val (.int bit), .val (.ref b41), .val (.int (0 : Int32)), .val (.int (bit &&& (31 : Int32)))] [(.int (1 : Int32)), (.ref b41)])) _
      exact k
    have Vo_b41_64 := Vc50
    obtain ⟨cl_b41_64, Ar_b41_64, q_b41_64, S_b41_64, M_b41_64, H_b41_64, G_b41_64⟩ := Vo_b41_64
    have hin64 : ¬ ((1 : Int32) < 0 ∨ cl_b41_64.slots.size ≤ ((1 : Int32)).toNatClampNeg) := inb_of S_b41_64 ⟨by decide, by decide⟩
    have hat64 : cl_b41_64.slots[((1 : Int32)).toNatClampNeg]? = some (.int c1) := H_b41_64.at hin64 rfl
    have pre65 : ∀ t, Steps p.tables e below (T60.setTop (mkF m 77 #[.val (.int c0), .val (.int c1), .val (.int c2), .val (.int bv), .val (.int bit), .val (.ref b41), .val (.int (0 : Int32)), .val (.int (bit &&& (31 : Int32)))] [(.int c1)])) t → Steps p.tables e below (s₁.setTop (entryFrame m #[(.int c0), (.int c1), (.int c2), (.int bv)] maxLocals)) t := fun t k => pre63 _ (X60.iaload hx (j := (1 : Int32)) (v := (.int c1)) (by rw [e60]; exact Ar_b41_64.1) (State.isArrayOf_alike hZ.alike Ar_b41_64.2.1) Ar_b41_64.2.2 hin64 hat64 (g := (mkF m 76 #[.val (.int c0), .val (.int c1), .val (.int c2), .val (.int bv), .val (.int bit), .val (.ref b41), .val (.int (0 : Int32)), .val (.int (bit &&& (31 : Int32)))] [(.int (1 : Int32)), (.ref b41)])) rfl rfl (hb hby at_76) t k)
    have pre66 : ∀ t, Steps p.tables e below (T60.setTop (mkF m 81 #[.val (.int c0), .val (.int c1), .val (.int c2), .val (.int bv), .val (.int bit), .val (.ref b41), .val (.int (0 : Int32)), .val (.int (bit &&& (31 : Int32)))] [(.int (1 : Int32)), (.int (0 : Int32)), (.int c1), (.int c1)])) t → Steps p.tables e below (s₁.setTop (entryFrame m #[(.int c0), (.int c1), (.int c2), (.int bv)] maxLocals)) t := fun t k => by
      refine pre65 _ ?_
      show Steps p.tables e below (T60.setTop (mkF m 77 #[.val (.int c0), .val (.int c1), .val (.int c2), .val (.int bv), .val (.int bit), .val (.ref b41), .val (.int (0 : Int32)), .val (.int (bit &&& (31 : Int32)))] [(.int c1)])) _
      refine XS.iloadN X60.here hx rfl (hb hby at_77) rfl ?_
      show Steps p.tables e below (T60.setTop (mkF m 78 #[.val (.int c0), .val (.int c1), .val (.int c2), .val (.int bv), .val (.int bit), .val (.ref b41), .val (.int (0 : Int32)), .val (.int (bit &&& (31 : Int32)))] [(.int c1), (.int c1)])) _
      refine XS.iload X60.here hx rfl (hb hby at_78) rfl ?_
      show Steps p.tables e below (T60.setTop (mkF m 80 #[.val (.int c0), .val (.int c1), .val (.int c2), .val (.int bv), .val (.int bit), .val (.ref b41), .val (.int (0 : Int32)), .val (.int (bit &&& (31 : Int32)))] [(.int (0 : Int32)), (.int c1), (.int c1)])) _
      refine XS.iconst X60.here hx rfl (hb hby at_80) ?_
      show Steps p.tables e below (T60.setTop (mkF m 81 #[.val (.int c0), .val (.int c1), .val (.int c2), .val (.int bv), .val (.int bit), .val (.ref b41), .val (.int (0 : Int32)), .val (.int (bit &&& (31 : Int32)))] [(.int (1 : Int32)), (.int (0 : Int32)), (.int c1), (.int c1)])) _
      exact k
    have pre67 : ∀ t, Steps p.tables e below (T60.setTop (mkF m 88 #[.val (.int c0), .val (.int c1), .val (.int c2), .val (.int bv), .val (.int bit), .val (.ref b41), .val (.int (0 : Int32)), .val (.int (bit &&& (31 : Int32)))] [(.int c1), (.int c1)])) t → Steps p.tables e below (s₁.setTop (entryFrame m #[(.int c0), (.int c1), (.int c2), (.int bv)] maxLocals)) t := fun t k => by
      refine pre66 _ ?_
      show Steps p.tables e below (T60.setTop (mkF m 81 #[.val (.int c0), .val (.int c1), .val (.int c2), .val (.int bv), .val (.int bit), .val (.ref b41), .val (.int (0 : Int32)), .val (.int (bit &&& (31 : Int32)))] [(.int (1 : Int32)), (.int (0 : Int32)), (.int c1), (.int c1)])) _
      refine XS.icmpYes X60.here hx rfl (pc0 := 81) (pc' := 88) rfl (hb hby at_81) rfl (feq (by decide : ¬ ((0 : Int32) = (1 : Int32)))).2 (by decide) (by decide) ?_
      show Steps p.tables e below (T60.setTop (mkF m 88 #[.val (.int c0), .val (.int c1), .val (.int c2), .val (.int bv), .val (.int bit), .val (.ref b41), .val (.int (0 : Int32)), .val (.int (bit &&& (31 : Int32)))] [(.int c1), (.int c1)])) _
      exact k
    have pre68 : ∀ t, Steps p.tables e below (T60.setTop (mkF m 91 #[.val (.int c0), .val (.int c1), .val (.int c2), .val (.int bv), .val (.int bit), .val (.ref b41), .val (.int (0 : Int32)), .val (.int (bit &&& (31 : Int32)))] [(.int (bit &&& (31 : Int32))), (.int (0 : Int32)), (.int c1), (.int c1)])) t → Steps p.tables e below (s₁.setTop (entryFrame m #[(.int c0), (.int c1), (.int c2), (.int bv)] maxLocals)) t := fun t k => by
      refine pre67 _ ?_
      show Steps p.tables e below (T60.setTop (mkF m 88 #[.val (.int c0), .val (.int c1), .val (.int c2), .val (.int bv), .val (.int bit), .val (.ref b41), .val (.int (0 : Int32)), .val (.int (bit &&& (31 : Int32)))] [(.int c1), (.int c1)])) _
      refine XS.iconst X60.here hx rfl (hb hby at_88) ?_
      show Steps p.tables e below (T60.setTop (mkF m 89 #[.val (.int c0), .val (.int c1), .val (.int c2), .val (.int bv), .val (.int bit), .val (.ref b41), .val (.int (0 : Int32)), .val (.int (bit &&& (31 : Int32)))] [(.int (0 : Int32)), (.int c1), (.int c1)])) _
      refine XS.iload X60.here hx rfl (hb hby at_89) rfl ?_
      show Steps p.tables e below (T60.setTop (mkF m 91 #[.val (.int c0), .val (.int c1), .val (.int c2), .val (.int bv), .val (.int bit), .val (.ref b41), .val (.int (0 : Int32)), .val (.int (bit &&& (31 : Int32)))] [(.int (bit &&& (31 : Int32))), (.int (0 : Int32)), (.int c1), (.int c1)])) _
      exact k
    obtain ⟨_, _, ⟨T69, L69, k69, n69⟩, -, X69, ⟨Lc69, hQ69, l69, y69, z69⟩, st69⟩ := Jvm.LawKit.callS X60 hx (y := (⟨"com/example/pertinet/pertinet/explore/StateDeactivatePinLaw", "expect", "(IZI)I"⟩ : MethodName)) hown (mvT hZ (hw _ (List.mem_of_getElem? (i := 9) rfl))) (mvT hZ (hw _ (List.mem_of_getElem? (i := 10) rfl))) (mvT hZ (hw _ (List.mem_of_getElem? (i := 11) rfl))) (mvT hZ (hw _ (List.mem_of_getElem? (i := 12) rfl))) (by decide) (backOf (W := 1) (rm3 l Z aZ hw [] c1 (0 : Int32) (bit &&& (31 : Int32))  T50.heap n0 Zs50 ) hZ (hw _ (List.mem_of_getElem? (i := 12) rfl)) (hw _ (List.mem_of_getElem? (i := 11) rfl)) (by decide) (by decide)) (g := (mkF m 91 #[.val (.int c0), .val (.int c1), .val (.int c2), .val (.int bv), .val (.int bit), .val (.ref b41), .val (.int (0 : Int32)), .val (.int (bit &&& (31 : Int32)))] [(.int (bit &&& (31 : Int32))), (.int (0 : Int32)), (.int c1), (.int c1)])) rfl (by rw [hml]; rfl) (argsL := [(.int c1), (.int (0 : Int32)), (.int (bit &&& (31 : Int32)))]) (rest := [(.int c1)]) (lenOf pd_2 rfl) rfl (by show 2 * 0 + _ ≤ _; exact Nat.le_of_eq rfl) (hb hby at_91) (fun _ _ => ⟨rfl, e60, (by decide : 1 + 0 ≤ _), (by decide : 3 + 0 ≤ _)⟩)
    dsimp only [Pt.U, Pt.locs, Pt.cells, Pt.slots] at X69 l69 y69 z69 st69 hQ69
    subst l69 y69 z69
    obtain ⟨rfl, N69q, e69⟩ := hQ69
    have N69 := Fr.app N60 N69q
    have pre69 : ∀ t, Steps p.tables e below (T69.setTop (mkF m 94 #[.val (.int c0), .val (.int c1), .val (.int c2), .val (.int bv), .val (.int bit), .val (.ref b41), .val (.int (0 : Int32)), .val (.int (bit &&& (31 : Int32)))] [(.int (f3 c1 (0 : Int32) (bit &&& (31 : Int32)))), (.int c1)])) t → Steps p.tables e below (s₁.setTop (entryFrame m #[(.int c0), (.int c1), (.int c2), (.int bv)] maxLocals)) t := fun t k => pre68 _ (st69 t k)
    have pre71 : ∀ t, Steps p.tables e below (T69.setTop (mkF m 97 #[.val (.int c0), .val (.int c1), .val (.int c2), .val (.int bv), .val (.int bit), .val (.ref b41), .val (.int (0 : Int32)), .val (.int (bit &&& (31 : Int32)))] [])) t → Steps p.tables e below (s₁.setTop (entryFrame m #[(.int c0), (.int c1), (.int c2), (.int bv)] maxLocals)) t := fun t k => by
      refine pre69 _ ?_
      show Steps p.tables e below (T69.setTop (mkF m 94 #[.val (.int c0), .val (.int c1), .val (.int c2), .val (.int bv), .val (.int bit), .val (.ref b41), .val (.int (0 : Int32)), .val (.int (bit &&& (31 : Int32)))] [(.int (f3 c1 (0 : Int32) (bit &&& (31 : Int32)))), (.int c1)])) _
      refine XS.icmpNo X69.here hx rfl (hb hby at_94) rfl (teq (own_not _ _)).2 ?_
      show Steps p.tables e below (T69.setTop (mkF m 97 #[.val (.int c0), .val (.int c1), .val (.int c2), .val (.int bv), .val (.int bit), .val (.ref b41), .val (.int (0 : Int32)), .val (.int (bit &&& (31 : Int32)))] [])) _
      exact k
    have pre72 : ∀ t, Steps p.tables e below (T69.setTop (mkF m 100 #[.val (.int c0), .val (.int c1), .val (.int c2), .val (.int bv), .val (.int bit), .val (.ref b41), .val (.int (0 : Int32)), .val (.int (bit &&& (31 : Int32)))] [(.int (2 : Int32)), (.ref b41)])) t → Steps p.tables e below (s₁.setTop (entryFrame m #[(.int c0), (.int c1), (.int c2), (.int bv)] maxLocals)) t := fun t k => by
      refine pre71 _ ?_
      show Steps p.tables e below (T69.setTop (mkF m 97 #[.val (.int c0), .val (.int c1), .val (.int c2), .val (.int bv), .val (.int bit), .val (.ref b41), .val (.int (0 : Int32)), .val (.int (bit &&& (31 : Int32)))] [])) _
      refine XS.aload X69.here hx rfl (hb hby at_97) rfl rfl ?_
      show Steps p.tables e below (T69.setTop (mkF m 99 #[.val (.int c0), .val (.int c1), .val (.int c2), .val (.int bv), .val (.int bit), .val (.ref b41), .val (.int (0 : Int32)), .val (.int (bit &&& (31 : Int32)))] [(.ref b41)])) _
      refine XS.iconst X69.here hx rfl (hb hby at_99) ?_
      show Steps p.tables e below (T69.setTop (mkF m 100 #[.val (.int c0), .val (.int c1), .val (.int c2), .val (.int bv), .val (.int bit), .val (.ref b41), .val (.int (0 : Int32)), .val (.int (bit &&& (31 : Int32)))] [(.int (2 : Int32)), (.ref b41)])) _
      exact k
    have Vo_b41_73 := Vc50
    obtain ⟨cl_b41_73, Ar_b41_73, q_b41_73, S_b41_73, M_b41_73, H_b41_73, G_b41_73⟩ := Vo_b41_73
    have hin73 : ¬ ((2 : Int32) < 0 ∨ cl_b41_73.slots.size ≤ ((2 : Int32)).toNatClampNeg) := inb_of S_b41_73 ⟨by decide, by decide⟩
    have hat73 : cl_b41_73.slots[((2 : Int32)).toNatClampNeg]? = some (.int c2) := H_b41_73.at hin73 rfl
    have pre74 : ∀ t, Steps p.tables e below (T69.setTop (mkF m 101 #[.val (.int c0), .val (.int c1), .val (.int c2), .val (.int bv), .val (.int bit), .val (.ref b41), .val (.int (0 : Int32)), .val (.int (bit &&& (31 : Int32)))] [(.int c2)])) t → Steps p.tables e below (s₁.setTop (entryFrame m #[(.int c0), (.int c1), (.int c2), (.int bv)] maxLocals)) t := fun t k => pre72 _ (X69.iaload hx (j := (2 : Int32)) (v := (.int c2)) (by rw [e69]; exact Ar_b41_73.1) (State.isArrayOf_alike hZ.alike Ar_b41_73.2.1) Ar_b41_73.2.2 hin73 hat73 (g := (mkF m 100 #[.val (.int c0), .val (.int c1), .val (.int c2), .val (.int bv), .val (.int bit), .val (.ref b41), .val (.int (0 : Int32)), .val (.int (bit &&& (31 : Int32)))] [(.int (2 : Int32)), (.ref b41)])) rfl rfl (hb hby at_100) t k)
    have pre75 : ∀ t, Steps p.tables e below (T69.setTop (mkF m 105 #[.val (.int c0), .val (.int c1), .val (.int c2), .val (.int bv), .val (.int bit), .val (.ref b41), .val (.int (0 : Int32)), .val (.int (bit &&& (31 : Int32)))] [(.int (2 : Int32)), (.int (0 : Int32)), (.int c2), (.int c2)])) t → Steps p.tables e below (s₁.setTop (entryFrame m #[(.int c0), (.int c1), (.int c2), (.int bv)] maxLocals)) t := fun t k => by
      refine pre74 _ ?_
      show Steps p.tables e below (T69.setTop (mkF m 101 #[.val (.int c0), .val (.int c1), .val (.int c2), .val (.int bv), .val (.int bit), .val (.ref b41), .val (.int (0 : Int32)), .val (.int (bit &&& (31 : Int32)))] [(.int c2)])) _
      refine XS.iloadN X69.here hx rfl (hb hby at_101) rfl ?_
      show Steps p.tables e below (T69.setTop (mkF m 102 #[.val (.int c0), .val (.int c1), .val (.int c2), .val (.int bv), .val (.int bit), .val (.ref b41), .val (.int (0 : Int32)), .val (.int (bit &&& (31 : Int32)))] [(.int c2), (.int c2)])) _
      refine XS.iload X69.here hx rfl (hb hby at_102) rfl ?_
      show Steps p.tables e below (T69.setTop (mkF m 104 #[.val (.int c0), .val (.int c1), .val (.int c2), .val (.int bv), .val (.int bit), .val (.ref b41), .val (.int (0 : Int32)), .val (.int (bit &&& (31 : Int32)))] [(.int (0 : Int32)), (.int c2), (.int c2)])) _
      refine XS.iconst X69.here hx rfl (hb hby at_104) ?_
      show Steps p.tables e below (T69.setTop (mkF m 105 #[.val (.int c0), .val (.int c1), .val (.int c2), .val (.int bv), .val (.int bit), .val (.ref b41), .val (.int (0 : Int32)), .val (.int (bit &&& (31 : Int32)))] [(.int (2 : Int32)), (.int (0 : Int32)), (.int c2), (.int c2)])) _
      exact k
    have pre76 : ∀ t, Steps p.tables e below (T69.setTop (mkF m 112 #[.val (.int c0), .val (.int c1), .val (.int c2), .val (.int bv), .val (.int bit), .val (.ref b41), .val (.int (0 : Int32)), .val (.int (bit &&& (31 : Int32)))] [(.int c2), (.int c2)])) t → Steps p.tables e below (s₁.setTop (entryFrame m #[(.int c0), (.int c1), (.int c2), (.int bv)] maxLocals)) t := fun t k => by
      refine pre75 _ ?_
      show Steps p.tables e below (T69.setTop (mkF m 105 #[.val (.int c0), .val (.int c1), .val (.int c2), .val (.int bv), .val (.int bit), .val (.ref b41), .val (.int (0 : Int32)), .val (.int (bit &&& (31 : Int32)))] [(.int (2 : Int32)), (.int (0 : Int32)), (.int c2), (.int c2)])) _
      refine XS.icmpYes X69.here hx rfl (pc0 := 105) (pc' := 112) rfl (hb hby at_105) rfl (feq (by decide : ¬ ((0 : Int32) = (2 : Int32)))).2 (by decide) (by decide) ?_
      show Steps p.tables e below (T69.setTop (mkF m 112 #[.val (.int c0), .val (.int c1), .val (.int c2), .val (.int bv), .val (.int bit), .val (.ref b41), .val (.int (0 : Int32)), .val (.int (bit &&& (31 : Int32)))] [(.int c2), (.int c2)])) _
      exact k
    have pre77 : ∀ t, Steps p.tables e below (T69.setTop (mkF m 115 #[.val (.int c0), .val (.int c1), .val (.int c2), .val (.int bv), .val (.int bit), .val (.ref b41), .val (.int (0 : Int32)), .val (.int (bit &&& (31 : Int32)))] [(.int (bit &&& (31 : Int32))), (.int (0 : Int32)), (.int c2), (.int c2)])) t → Steps p.tables e below (s₁.setTop (entryFrame m #[(.int c0), (.int c1), (.int c2), (.int bv)] maxLocals)) t := fun t k => by
      refine pre76 _ ?_
      show Steps p.tables e below (T69.setTop (mkF m 112 #[.val (.int c0), .val (.int c1), .val (.int c2), .val (.int bv), .val (.int bit), .val (.ref b41), .val (.int (0 : Int32)), .val (.int (bit &&& (31 : Int32)))] [(.int c2), (.int c2)])) _
      refine XS.iconst X69.here hx rfl (hb hby at_112) ?_
      show Steps p.tables e below (T69.setTop (mkF m 113 #[.val (.int c0), .val (.int c1), .val (.int c2), .val (.int bv), .val (.int bit), .val (.ref b41), .val (.int (0 : Int32)), .val (.int (bit &&& (31 : Int32)))] [(.int (0 : Int32)), (.int c2), (.int c2)])) _
      refine XS.iload X69.here hx rfl (hb hby at_113) rfl ?_
      show Steps p.tables e below (T69.setTop (mkF m 115 #[.val (.int c0), .val (.int c1), .val (.int c2), .val (.int bv), .val (.int bit), .val (.ref b41), .val (.int (0 : Int32)), .val (.int (bit &&& (31 : Int32)))] [(.int (bit &&& (31 : Int32))), (.int (0 : Int32)), (.int c2), (.int c2)])) _
      exact k
    obtain ⟨_, _, ⟨T78, L78, k78, n78⟩, -, X78, ⟨Lc78, hQ78, l78, y78, z78⟩, st78⟩ := Jvm.LawKit.callS X69 hx (y := (⟨"com/example/pertinet/pertinet/explore/StateDeactivatePinLaw", "expect", "(IZI)I"⟩ : MethodName)) hown (mvT hZ (hw _ (List.mem_of_getElem? (i := 9) rfl))) (mvT hZ (hw _ (List.mem_of_getElem? (i := 10) rfl))) (mvT hZ (hw _ (List.mem_of_getElem? (i := 11) rfl))) (mvT hZ (hw _ (List.mem_of_getElem? (i := 12) rfl))) (by decide) (backOf (W := 1) (rm3 l Z aZ hw [] c2 (0 : Int32) (bit &&& (31 : Int32))  T50.heap n0 Zs50 ) hZ (hw _ (List.mem_of_getElem? (i := 12) rfl)) (hw _ (List.mem_of_getElem? (i := 11) rfl)) (by decide) (by decide)) (g := (mkF m 115 #[.val (.int c0), .val (.int c1), .val (.int c2), .val (.int bv), .val (.int bit), .val (.ref b41), .val (.int (0 : Int32)), .val (.int (bit &&& (31 : Int32)))] [(.int (bit &&& (31 : Int32))), (.int (0 : Int32)), (.int c2), (.int c2)])) rfl (by rw [hml]; rfl) (argsL := [(.int c2), (.int (0 : Int32)), (.int (bit &&& (31 : Int32)))]) (rest := [(.int c2)]) (lenOf pd_2 rfl) rfl (by show 2 * 0 + _ ≤ _; exact Nat.le_of_eq rfl) (hb hby at_115) (fun _ _ => ⟨rfl, e69, (by decide : 1 + 0 ≤ _), (by decide : 3 + 0 ≤ _)⟩)
    dsimp only [Pt.U, Pt.locs, Pt.cells, Pt.slots] at X78 l78 y78 z78 st78 hQ78
    subst l78 y78 z78
    obtain ⟨rfl, N78q, e78⟩ := hQ78
    have N78 := Fr.app N69 N78q
    have pre78 : ∀ t, Steps p.tables e below (T78.setTop (mkF m 118 #[.val (.int c0), .val (.int c1), .val (.int c2), .val (.int bv), .val (.int bit), .val (.ref b41), .val (.int (0 : Int32)), .val (.int (bit &&& (31 : Int32)))] [(.int (f3 c2 (0 : Int32) (bit &&& (31 : Int32)))), (.int c2)])) t → Steps p.tables e below (s₁.setTop (entryFrame m #[(.int c0), (.int c1), (.int c2), (.int bv)] maxLocals)) t := fun t k => pre77 _ (st78 t k)
    have pre80 : ∀ t, Steps p.tables e below (T78.setTop (mkF m 121 #[.val (.int c0), .val (.int c1), .val (.int c2), .val (.int bv), .val (.int bit), .val (.ref b41), .val (.int (0 : Int32)), .val (.int (bit &&& (31 : Int32)))] [])) t → Steps p.tables e below (s₁.setTop (entryFrame m #[(.int c0), (.int c1), (.int c2), (.int bv)] maxLocals)) t := fun t k => by
      refine pre78 _ ?_
      show Steps p.tables e below (T78.setTop (mkF m 118 #[.val (.int c0), .val (.int c1), .val (.int c2), .val (.int bv), .val (.int bit), .val (.ref b41), .val (.int (0 : Int32)), .val (.int (bit &&& (31 : Int32)))] [(.int (f3 c2 (0 : Int32) (bit &&& (31 : Int32)))), (.int c2)])) _
      refine XS.icmpNo X78.here hx rfl (hb hby at_118) rfl (teq (own_not _ _)).2 ?_
      show Steps p.tables e below (T78.setTop (mkF m 121 #[.val (.int c0), .val (.int c1), .val (.int c2), .val (.int bv), .val (.int bit), .val (.ref b41), .val (.int (0 : Int32)), .val (.int (bit &&& (31 : Int32)))] [])) _
      exact k
    have pre81 : ∀ t, Steps p.tables e below (T78.setTop (mkF m 126 #[.val (.int c0), .val (.int c1), .val (.int c2), .val (.int bv), .val (.int bit), .val (.ref b41), .val (.int (0 : Int32)), .val (.int (bit &&& (31 : Int32)))] [(.int (1 : Int32))])) t → Steps p.tables e below (s₁.setTop (entryFrame m #[(.int c0), (.int c1), (.int c2), (.int bv)] maxLocals)) t := fun t k => by
      refine pre80 _ ?_
      show Steps p.tables e below (T78.setTop (mkF m 121 #[.val (.int c0), .val (.int c1), .val (.int c2), .val (.int bv), .val (.int bit), .val (.ref b41), .val (.int (0 : Int32)), .val (.int (bit &&& (31 : Int32)))] [])) _
      refine XS.iconst X78.here hx rfl (hb hby at_121) ?_
      show Steps p.tables e below (T78.setTop (mkF m 122 #[.val (.int c0), .val (.int c1), .val (.int c2), .val (.int bv), .val (.int bit), .val (.ref b41), .val (.int (0 : Int32)), .val (.int (bit &&& (31 : Int32)))] [(.int (1 : Int32))])) _
      refine XS.goto X78.here hx rfl (pc0 := 122) (pc' := 126) rfl (hb hby at_122) (by decide) (by decide) ?_
      show Steps p.tables e below (T78.setTop (mkF m 126 #[.val (.int c0), .val (.int c1), .val (.int c2), .val (.int bv), .val (.int bit), .val (.ref b41), .val (.int (0 : Int32)), .val (.int (bit &&& (31 : Int32)))] [(.int (1 : Int32))])) _
      exact k
    obtain ⟨fs, hr, hrun, hended, hW, hsame⟩ := X78.leave (v := some (.int (1 : Int32))) (fun h => by rw [Bd.returns] at h; cases h)
    refine ⟨_, _, pre81 _ ?_, hrun, hended, _, _, rfl, ?_, ⟨_, rfl⟩, hW, hsame.mono (by decide) (by decide)⟩
    · show Steps p.tables e below (T78.setTop (mkF m 126 #[.val (.int c0), .val (.int c1), .val (.int c2), .val (.int bv), .val (.int bit), .val (.ref b41), .val (.int (0 : Int32)), .val (.int (bit &&& (31 : Int32)))] [(.int (1 : Int32))])) _
      exact retN X78 hx (t := .boolean) Bd.returns (by simp) (hb hby at_126) hr
    · show Q0 c0 c1 c2 bv h0 n0 _ T78.heap _
      exact ⟨rfl, N78⟩
  · have hdv : bit / (32 : Int32) = (1 : Int32) := hi.1.trans hidx
    obtain ⟨_, _, ⟨T83, L83, k83, n83⟩, -, X83, ⟨Lc83, hQ83, l83, y83, z83⟩, st83⟩ := Jvm.LawKit.callS X47 hx (y := (⟨"com/example/pertinet/pertinet/explore/State", "deactivate", "([II)V"⟩ : MethodName)) hown (mvT hZ (hw _ (List.mem_of_getElem? (i := 2) rfl))) (mvT hZ (hw _ (List.mem_of_getElem? (i := 3) rfl))) (mvT hZ (hw _ (List.mem_of_getElem? (i := 4) rfl))) (mvT hZ (hw _ (List.mem_of_getElem? (i := 5) rfl))) (by decide) (backOf (W := 0) (rm1_1 l Z aZ hw [] b41 bit k41 c0 c1 c2 h47 n0 Zs47 F47_0 g_b41 hidx) hZ (hw _ (List.mem_of_getElem? (i := 5) rfl)) (hw _ (List.mem_of_getElem? (i := 4) rfl)) (by decide) (by decide)) (g := (mkF m 33 #[.val (.int c0), .val (.int c1), .val (.int c2), .val (.int bv), .val (.int bit), .val (.ref b41), .unset, .unset] [(.int bit), (.ref b41)])) rfl (by rw [hml]; rfl) (argsL := [(.ref b41), (.int bit)]) (rest := []) (lenOf pd_0 rfl) rfl (by show 2 * 0 + _ ≤ _; exact Nat.le_of_eq rfl) (hb hby at_33) (fun _ _ => ⟨rfl, e47, (by decide : 1 + 0 ≤ _), (by decide : 3 + 0 ≤ _)⟩)
    dsimp only [Pt.U, Pt.locs, Pt.cells, Pt.slots] at X83 l83 y83 z83 st83 hQ83
    subst l83 y83 z83
    obtain ⟨rfl, N83q, Kc83, Vc83⟩ := hQ83
    have N83 := Fr.app N47 N83q
    have pre83 : ∀ t, Steps p.tables e below (T83.setTop (mkF m 36 #[.val (.int c0), .val (.int c1), .val (.int c2), .val (.int bv), .val (.int bit), .val (.ref b41), .unset, .unset] [])) t → Steps p.tables e below (s₁.setTop (entryFrame m #[(.int c0), (.int c1), (.int c2), (.int bv)] maxLocals)) t := fun t k => pre48 _ (st83 t k)
    have Zs83 : n0 ≤ T83.heap.size := Nat.le_trans Zs47 Kc83.1
    have K83 := K47.trans Kc83 (by intro x hx; simp only [List.mem_cons, List.not_mem_nil, or_false] at hx; rcases hx with rfl <;> first | exact Or.inr sz_b41)
    have pre84 : ∀ t, Steps p.tables e below (T83.setTop (mkF m 50 #[.val (.int c0), .val (.int c1), .val (.int c2), .val (.int bv), .val (.int bit), .val (.ref b41), .val (.int (bit / (32 : Int32))), .val (.int (bit - (bit / (32 : Int32)) * (32 : Int32)))] [])) t → Steps p.tables e below (s₁.setTop (entryFrame m #[(.int c0), (.int c1), (.int c2), (.int bv)] maxLocals)) t := fun t k => by
      refine pre83 _ ?_
      show Steps p.tables e below (T83.setTop (mkF m 36 #[.val (.int c0), .val (.int c1), .val (.int c2), .val (.int bv), .val (.int bit), .val (.ref b41), .unset, .unset] [])) _
      refine XS.iload X83.here hx rfl (hb hby at_36) rfl ?_
      show Steps p.tables e below (T83.setTop (mkF m 38 #[.val (.int c0), .val (.int c1), .val (.int c2), .val (.int bv), .val (.int bit), .val (.ref b41), .unset, .unset] [(.int bit)])) _
      refine XS.bipush X83.here hx rfl (hb hby at_38) ?_
      show Steps p.tables e below (T83.setTop (mkF m 40 #[.val (.int c0), .val (.int c1), .val (.int c2), .val (.int bv), .val (.int bit), .val (.ref b41), .unset, .unset] [(.int (32 : Int32)), (.int bit)])) _
      refine XS.idiv X83.here hx rfl (hb hby at_40) rfl (by decide) ?_
      show Steps p.tables e below (T83.setTop (mkF m 41 #[.val (.int c0), .val (.int c1), .val (.int c2), .val (.int bv), .val (.int bit), .val (.ref b41), .unset, .unset] [(.int (bit / (32 : Int32)))])) _
      refine XS.istore X83.here hx rfl (hb hby at_41) rfl (l' := #[.val (.int c0), .val (.int c1), .val (.int c2), .val (.int bv), .val (.int bit), .val (.ref b41), .val (.int (bit / (32 : Int32))), .unset]) rfl ?_
      show Steps p.tables e below (T83.setTop (mkF m 43 #[.val (.int c0), .val (.int c1), .val (.int c2), .val (.int bv), .val (.int bit), .val (.ref b41), .val (.int (bit / (32 : Int32))), .unset] [])) _
      refine XS.iload X83.here hx rfl (hb hby at_43) rfl ?_
      show Steps p.tables e below (T83.setTop (mkF m 45 #[.val (.int c0), .val (.int c1), .val (.int c2), .val (.int bv), .val (.int bit), .val (.ref b41), .val (.int (bit / (32 : Int32))), .unset] [(.int bit)])) _
      refine XS.bipush X83.here hx rfl (hb hby at_45) ?_
      show Steps p.tables e below (T83.setTop (mkF m 47 #[.val (.int c0), .val (.int c1), .val (.int c2), .val (.int bv), .val (.int bit), .val (.ref b41), .val (.int (bit / (32 : Int32))), .unset] [(.int (32 : Int32)), (.int bit)])) _
      refine XS.irem X83.here hx rfl (hb hby at_47) rfl (by decide) ?_
      show Steps p.tables e below (T83.setTop (mkF m 48 #[.val (.int c0), .val (.int c1), .val (.int c2), .val (.int bv), .val (.int bit), .val (.ref b41), .val (.int (bit / (32 : Int32))), .unset] [(.int (bit - (bit / (32 : Int32)) * (32 : Int32)))])) _
      refine XS.istore X83.here hx rfl (hb hby at_48) rfl (l' := #[.val (.int c0), .val (.int c1), .val (.int c2), .val (.int bv), .val (.int bit), .val (.ref b41), .val (.int (bit / (32 : Int32))), .val (.int (bit - (bit / (32 : Int32)) * (32 : Int32)))]) rfl ?_
      show Steps p.tables e below (T83.setTop (mkF m 50 #[.val (.int c0), .val (.int c1), .val (.int c2), .val (.int bv), .val (.int bit), .val (.ref b41), .val (.int (bit / (32 : Int32))), .val (.int (bit - (bit / (32 : Int32)) * (32 : Int32)))] [])) _
      exact k
    have pre85 : ∀ t, Steps p.tables e below (T83.setTop (mkF m 50 #[.val (.int c0), .val (.int c1), .val (.int c2), .val (.int bv), .val (.int bit), .val (.ref b41), .val (.int (bit / (32 : Int32))), .val (.int (bit &&& (31 : Int32)))] [])) t → Steps p.tables e below (s₁.setTop (entryFrame m #[(.int c0), (.int c1), (.int c2), (.int bv)] maxLocals)) t := by
      have q := pre84
      rw [hp] at q
      exact q
    have pre86 : ∀ t, Steps p.tables e below (T83.setTop (mkF m 50 #[.val (.int c0), .val (.int c1), .val (.int c2), .val (.int bv), .val (.int bit), .val (.ref b41), .val (.int (1 : Int32)), .val (.int (bit &&& (31 : Int32)))] [])) t → Steps p.tables e below (s₁.setTop (entryFrame m #[(.int c0), (.int c1), (.int c2), (.int bv)] maxLocals)) t := by
      have q := pre85
      rw [hdv] at q
      exact q
    have pre87 : ∀ t, Steps p.tables e below (T83.setTop (mkF m 53 #[.val (.int c0), .val (.int c1), .val (.int c2), .val (.int bv), .val (.int bit), .val (.ref b41), .val (.int (1 : Int32)), .val (.int (bit &&& (31 : Int32)))] [(.int (0 : Int32)), (.ref b41)])) t → Steps p.tables e below (s₁.setTop (entryFrame m #[(.int c0), (.int c1), (.int c2), (.int bv)] maxLocals)) t := fun t k => by
      refine pre86 _ ?_
      show Steps p.tables e below (T83.setTop (mkF m 50 #[.val (.int c0), .val (.int c1), .val (.int c2), .val (.int bv), .val (.int bit), .val (.ref b41), .val (.int (1 : Int32)), .val (.int (bit &&& (31 : Int32)))] [])) _
      refine XS.aload X83.here hx rfl (hb hby at_50) rfl rfl ?_
      show Steps p.tables e below (T83.setTop (mkF m 52 #[.val (.int c0), .val (.int c1), .val (.int c2), .val (.int bv), .val (.int bit), .val (.ref b41), .val (.int (1 : Int32)), .val (.int (bit &&& (31 : Int32)))] [(.ref b41)])) _
      refine XS.iconst X83.here hx rfl (hb hby at_52) ?_
      show Steps p.tables e below (T83.setTop (mkF m 53 #[.val (.int c0), .val (.int c1), .val (.int c2), .val (.int bv), .val (.int bit), .val (.ref b41), .val (.int (1 : Int32)), .val (.int (bit &&& (31 : Int32)))] [(.int (0 : Int32)), (.ref b41)])) _
      exact k
    have Vo_b41_88 := Vc83
    obtain ⟨cl_b41_88, Ar_b41_88, q_b41_88, S_b41_88, M_b41_88, H_b41_88, G_b41_88⟩ := Vo_b41_88
    have hin88 : ¬ ((0 : Int32) < 0 ∨ cl_b41_88.slots.size ≤ ((0 : Int32)).toNatClampNeg) := inb_of S_b41_88 ⟨by decide, by decide⟩
    have hat88 : cl_b41_88.slots[((0 : Int32)).toNatClampNeg]? = some (.int c0) := H_b41_88.at hin88 rfl
    have pre89 : ∀ t, Steps p.tables e below (T83.setTop (mkF m 54 #[.val (.int c0), .val (.int c1), .val (.int c2), .val (.int bv), .val (.int bit), .val (.ref b41), .val (.int (1 : Int32)), .val (.int (bit &&& (31 : Int32)))] [(.int c0)])) t → Steps p.tables e below (s₁.setTop (entryFrame m #[(.int c0), (.int c1), (.int c2), (.int bv)] maxLocals)) t := fun t k => pre87 _ (X83.iaload hx (j := (0 : Int32)) (v := (.int c0)) Ar_b41_88.1 (State.isArrayOf_alike hZ.alike Ar_b41_88.2.1) Ar_b41_88.2.2 hin88 hat88 (g := (mkF m 53 #[.val (.int c0), .val (.int c1), .val (.int c2), .val (.int bv), .val (.int bit), .val (.ref b41), .val (.int (1 : Int32)), .val (.int (bit &&& (31 : Int32)))] [(.int (0 : Int32)), (.ref b41)])) rfl rfl (hb hby at_53) t k)
    have pre90 : ∀ t, Steps p.tables e below (T83.setTop (mkF m 57 #[.val (.int c0), .val (.int c1), .val (.int c2), .val (.int bv), .val (.int bit), .val (.ref b41), .val (.int (1 : Int32)), .val (.int (bit &&& (31 : Int32)))] [(.int (1 : Int32)), (.int c0), (.int c0)])) t → Steps p.tables e below (s₁.setTop (entryFrame m #[(.int c0), (.int c1), (.int c2), (.int bv)] maxLocals)) t := fun t k => by
      refine pre89 _ ?_
      show Steps p.tables e below (T83.setTop (mkF m 54 #[.val (.int c0), .val (.int c1), .val (.int c2), .val (.int bv), .val (.int bit), .val (.ref b41), .val (.int (1 : Int32)), .val (.int (bit &&& (31 : Int32)))] [(.int c0)])) _
      refine XS.iloadN X83.here hx rfl (hb hby at_54) rfl ?_
      show Steps p.tables e below (T83.setTop (mkF m 55 #[.val (.int c0), .val (.int c1), .val (.int c2), .val (.int bv), .val (.int bit), .val (.ref b41), .val (.int (1 : Int32)), .val (.int (bit &&& (31 : Int32)))] [(.int c0), (.int c0)])) _
      refine XS.iload X83.here hx rfl (hb hby at_55) rfl ?_
      show Steps p.tables e below (T83.setTop (mkF m 57 #[.val (.int c0), .val (.int c1), .val (.int c2), .val (.int bv), .val (.int bit), .val (.ref b41), .val (.int (1 : Int32)), .val (.int (bit &&& (31 : Int32)))] [(.int (1 : Int32)), (.int c0), (.int c0)])) _
      exact k
    have pre91 : ∀ t, Steps p.tables e below (T83.setTop (mkF m 64 #[.val (.int c0), .val (.int c1), .val (.int c2), .val (.int bv), .val (.int bit), .val (.ref b41), .val (.int (1 : Int32)), .val (.int (bit &&& (31 : Int32)))] [(.int c0), (.int c0)])) t → Steps p.tables e below (s₁.setTop (entryFrame m #[(.int c0), (.int c1), (.int c2), (.int bv)] maxLocals)) t := fun t k => by
      refine pre90 _ ?_
      show Steps p.tables e below (T83.setTop (mkF m 57 #[.val (.int c0), .val (.int c1), .val (.int c2), .val (.int bv), .val (.int bit), .val (.ref b41), .val (.int (1 : Int32)), .val (.int (bit &&& (31 : Int32)))] [(.int (1 : Int32)), (.int c0), (.int c0)])) _
      refine XS.ifYes X83.here hx rfl (pc0 := 57) (pc' := 64) rfl (hb hby at_57) rfl ((if0 _ _).trans (feq (by decide : ¬ ((1 : Int32) = (0 : Int32)))).2) (by decide) (by decide) ?_
      show Steps p.tables e below (T83.setTop (mkF m 64 #[.val (.int c0), .val (.int c1), .val (.int c2), .val (.int bv), .val (.int bit), .val (.ref b41), .val (.int (1 : Int32)), .val (.int (bit &&& (31 : Int32)))] [(.int c0), (.int c0)])) _
      exact k
    have pre92 : ∀ t, Steps p.tables e below (T83.setTop (mkF m 67 #[.val (.int c0), .val (.int c1), .val (.int c2), .val (.int bv), .val (.int bit), .val (.ref b41), .val (.int (1 : Int32)), .val (.int (bit &&& (31 : Int32)))] [(.int (bit &&& (31 : Int32))), (.int (0 : Int32)), (.int c0), (.int c0)])) t → Steps p.tables e below (s₁.setTop (entryFrame m #[(.int c0), (.int c1), (.int c2), (.int bv)] maxLocals)) t := fun t k => by
      refine pre91 _ ?_
      show Steps p.tables e below (T83.setTop (mkF m 64 #[.val (.int c0), .val (.int c1), .val (.int c2), .val (.int bv), .val (.int bit), .val (.ref b41), .val (.int (1 : Int32)), .val (.int (bit &&& (31 : Int32)))] [(.int c0), (.int c0)])) _
      refine XS.iconst X83.here hx rfl (hb hby at_64) ?_
      show Steps p.tables e below (T83.setTop (mkF m 65 #[.val (.int c0), .val (.int c1), .val (.int c2), .val (.int bv), .val (.int bit), .val (.ref b41), .val (.int (1 : Int32)), .val (.int (bit &&& (31 : Int32)))] [(.int (0 : Int32)), (.int c0), (.int c0)])) _
      refine XS.iload X83.here hx rfl (hb hby at_65) rfl ?_
      show Steps p.tables e below (T83.setTop (mkF m 67 #[.val (.int c0), .val (.int c1), .val (.int c2), .val (.int bv), .val (.int bit), .val (.ref b41), .val (.int (1 : Int32)), .val (.int (bit &&& (31 : Int32)))] [(.int (bit &&& (31 : Int32))), (.int (0 : Int32)), (.int c0), (.int c0)])) _
      exact k
    obtain ⟨_, _, ⟨T93, L93, k93, n93⟩, -, X93, ⟨Lc93, hQ93, l93, y93, z93⟩, st93⟩ := Jvm.LawKit.callS X83 hx (y := (⟨"com/example/pertinet/pertinet/explore/StateDeactivatePinLaw", "expect", "(IZI)I"⟩ : MethodName)) hown (mvT hZ (hw _ (List.mem_of_getElem? (i := 9) rfl))) (mvT hZ (hw _ (List.mem_of_getElem? (i := 10) rfl))) (mvT hZ (hw _ (List.mem_of_getElem? (i := 11) rfl))) (mvT hZ (hw _ (List.mem_of_getElem? (i := 12) rfl))) (by decide) (backOf (W := 1) (rm3 l Z aZ hw [] c0 (0 : Int32) (bit &&& (31 : Int32))  T83.heap n0 Zs83 ) hZ (hw _ (List.mem_of_getElem? (i := 12) rfl)) (hw _ (List.mem_of_getElem? (i := 11) rfl)) (by decide) (by decide)) (g := (mkF m 67 #[.val (.int c0), .val (.int c1), .val (.int c2), .val (.int bv), .val (.int bit), .val (.ref b41), .val (.int (1 : Int32)), .val (.int (bit &&& (31 : Int32)))] [(.int (bit &&& (31 : Int32))), (.int (0 : Int32)), (.int c0), (.int c0)])) rfl (by rw [hml]; rfl) (argsL := [(.int c0), (.int (0 : Int32)), (.int (bit &&& (31 : Int32)))]) (rest := [(.int c0)]) (lenOf pd_2 rfl) rfl (by show 2 * 0 + _ ≤ _; exact Nat.le_of_eq rfl) (hb hby at_67) (fun _ _ => ⟨rfl, rfl, (by decide : 1 + 0 ≤ _), (by decide : 3 + 0 ≤ _)⟩)
    dsimp only [Pt.U, Pt.locs, Pt.cells, Pt.slots] at X93 l93 y93 z93 st93 hQ93
    subst l93 y93 z93
    obtain ⟨rfl, N93q, e93⟩ := hQ93
    have N93 := Fr.app N83 N93q
    have pre93 : ∀ t, Steps p.tables e below (T93.setTop (mkF m 70 #[.val (.int c0), .val (.int c1), .val (.int c2), .val (.int bv), .val (.int bit), .val (.ref b41), .val (.int (1 : Int32)), .val (.int (bit &&& (31 : Int32)))] [(.int (f3 c0 (0 : Int32) (bit &&& (31 : Int32)))), (.int c0)])) t → Steps p.tables e below (s₁.setTop (entryFrame m #[(.int c0), (.int c1), (.int c2), (.int bv)] maxLocals)) t := fun t k => pre92 _ (st93 t k)
    have pre95 : ∀ t, Steps p.tables e below (T93.setTop (mkF m 73 #[.val (.int c0), .val (.int c1), .val (.int c2), .val (.int bv), .val (.int bit), .val (.ref b41), .val (.int (1 : Int32)), .val (.int (bit &&& (31 : Int32)))] [])) t → Steps p.tables e below (s₁.setTop (entryFrame m #[(.int c0), (.int c1), (.int c2), (.int bv)] maxLocals)) t := fun t k => by
      refine pre93 _ ?_
      show Steps p.tables e below (T93.setTop (mkF m 70 #[.val (.int c0), .val (.int c1), .val (.int c2), .val (.int bv), .val (.int bit), .val (.ref b41), .val (.int (1 : Int32)), .val (.int (bit &&& (31 : Int32)))] [(.int (f3 c0 (0 : Int32) (bit &&& (31 : Int32)))), (.int c0)])) _
      refine XS.icmpNo X93.here hx rfl (hb hby at_70) rfl (teq (own_not _ _)).2 ?_
      show Steps p.tables e below (T93.setTop (mkF m 73 #[.val (.int c0), .val (.int c1), .val (.int c2), .val (.int bv), .val (.int bit), .val (.ref b41), .val (.int (1 : Int32)), .val (.int (bit &&& (31 : Int32)))] [])) _
      exact k
    have pre96 : ∀ t, Steps p.tables e below (T93.setTop (mkF m 76 #[.val (.int c0), .val (.int c1), .val (.int c2), .val (.int bv), .val (.int bit), .val (.ref b41), .val (.int (1 : Int32)), .val (.int (bit &&& (31 : Int32)))] [(.int (1 : Int32)), (.ref b41)])) t → Steps p.tables e below (s₁.setTop (entryFrame m #[(.int c0), (.int c1), (.int c2), (.int bv)] maxLocals)) t := fun t k => by
      refine pre95 _ ?_
      show Steps p.tables e below (T93.setTop (mkF m 73 #[.val (.int c0), .val (.int c1), .val (.int c2), .val (.int bv), .val (.int bit), .val (.ref b41), .val (.int (1 : Int32)), .val (.int (bit &&& (31 : Int32)))] [])) _
      refine XS.aload X93.here hx rfl (hb hby at_73) rfl rfl ?_
      show Steps p.tables e below (T93.setTop (mkF m 75 #[.val (.int c0), .val (.int c1), .val (.int c2), .val (.int bv), .val (.int bit), .val (.ref b41), .val (.int (1 : Int32)), .val (.int (bit &&& (31 : Int32)))] [(.ref b41)])) _
      refine XS.iconst X93.here hx rfl (hb hby at_75) ?_
      show Steps p.tables e below (T93.setTop (mkF m 76 #[.val (.int c0), .val (.int c1), .val (.int c2), .val (.int bv), .val (.int bit), .val (.ref b41), .val (.int (1 : Int32)), .val (.int (bit &&& (31 : Int32)))] [(.int (1 : Int32)), (.ref b41)])) _
      exact k
    have Vo_b41_97 := Vc83
    obtain ⟨cl_b41_97, Ar_b41_97, q_b41_97, S_b41_97, M_b41_97, H_b41_97, G_b41_97⟩ := Vo_b41_97
    have hin97 : ¬ ((1 : Int32) < 0 ∨ cl_b41_97.slots.size ≤ ((1 : Int32)).toNatClampNeg) := inb_of S_b41_97 ⟨by decide, by decide⟩
    have hat97 : cl_b41_97.slots[((1 : Int32)).toNatClampNeg]? = some (.int (own_off c1 bit)) := H_b41_97.at hin97 rfl
    have pre98 : ∀ t, Steps p.tables e below (T93.setTop (mkF m 77 #[.val (.int c0), .val (.int c1), .val (.int c2), .val (.int bv), .val (.int bit), .val (.ref b41), .val (.int (1 : Int32)), .val (.int (bit &&& (31 : Int32)))] [(.int (own_off c1 bit))])) t → Steps p.tables e below (s₁.setTop (entryFrame m #[(.int c0), (.int c1), (.int c2), (.int bv)] maxLocals)) t := fun t k => pre96 _ (X93.iaload hx (j := (1 : Int32)) (v := (.int (own_off c1 bit))) (by rw [e93]; exact Ar_b41_97.1) (State.isArrayOf_alike hZ.alike Ar_b41_97.2.1) Ar_b41_97.2.2 hin97 hat97 (g := (mkF m 76 #[.val (.int c0), .val (.int c1), .val (.int c2), .val (.int bv), .val (.int bit), .val (.ref b41), .val (.int (1 : Int32)), .val (.int (bit &&& (31 : Int32)))] [(.int (1 : Int32)), (.ref b41)])) rfl rfl (hb hby at_76) t k)
    have pre99 : ∀ t, Steps p.tables e below (T93.setTop (mkF m 81 #[.val (.int c0), .val (.int c1), .val (.int c2), .val (.int bv), .val (.int bit), .val (.ref b41), .val (.int (1 : Int32)), .val (.int (bit &&& (31 : Int32)))] [(.int (1 : Int32)), (.int (1 : Int32)), (.int c1), (.int (own_off c1 bit))])) t → Steps p.tables e below (s₁.setTop (entryFrame m #[(.int c0), (.int c1), (.int c2), (.int bv)] maxLocals)) t := fun t k => by
      refine pre98 _ ?_
      show Steps p.tables e below (T93.setTop (mkF m 77 #[.val (.int c0), .val (.int c1), .val (.int c2), .val (.int bv), .val (.int bit), .val (.ref b41), .val (.int (1 : Int32)), .val (.int (bit &&& (31 : Int32)))] [(.int (own_off c1 bit))])) _
      refine XS.iloadN X93.here hx rfl (hb hby at_77) rfl ?_
      show Steps p.tables e below (T93.setTop (mkF m 78 #[.val (.int c0), .val (.int c1), .val (.int c2), .val (.int bv), .val (.int bit), .val (.ref b41), .val (.int (1 : Int32)), .val (.int (bit &&& (31 : Int32)))] [(.int c1), (.int (own_off c1 bit))])) _
      refine XS.iload X93.here hx rfl (hb hby at_78) rfl ?_
      show Steps p.tables e below (T93.setTop (mkF m 80 #[.val (.int c0), .val (.int c1), .val (.int c2), .val (.int bv), .val (.int bit), .val (.ref b41), .val (.int (1 : Int32)), .val (.int (bit &&& (31 : Int32)))] [(.int (1 : Int32)), (.int c1), (.int (own_off c1 bit))])) _
      refine XS.iconst X93.here hx rfl (hb hby at_80) ?_
      show Steps p.tables e below (T93.setTop (mkF m 81 #[.val (.int c0), .val (.int c1), .val (.int c2), .val (.int bv), .val (.int bit), .val (.ref b41), .val (.int (1 : Int32)), .val (.int (bit &&& (31 : Int32)))] [(.int (1 : Int32)), (.int (1 : Int32)), (.int c1), (.int (own_off c1 bit))])) _
      exact k
    have pre100 : ∀ t, Steps p.tables e below (T93.setTop (mkF m 84 #[.val (.int c0), .val (.int c1), .val (.int c2), .val (.int bv), .val (.int bit), .val (.ref b41), .val (.int (1 : Int32)), .val (.int (bit &&& (31 : Int32)))] [(.int c1), (.int (own_off c1 bit))])) t → Steps p.tables e below (s₁.setTop (entryFrame m #[(.int c0), (.int c1), (.int c2), (.int bv)] maxLocals)) t := fun t k => by
      refine pre99 _ ?_
      show Steps p.tables e below (T93.setTop (mkF m 81 #[.val (.int c0), .val (.int c1), .val (.int c2), .val (.int bv), .val (.int bit), .val (.ref b41), .val (.int (1 : Int32)), .val (.int (bit &&& (31 : Int32)))] [(.int (1 : Int32)), (.int (1 : Int32)), (.int c1), (.int (own_off c1 bit))])) _
      refine XS.icmpNo X93.here hx rfl (hb hby at_81) rfl (teq (by decide : (1 : Int32) = (1 : Int32))).2 ?_
      show Steps p.tables e below (T93.setTop (mkF m 84 #[.val (.int c0), .val (.int c1), .val (.int c2), .val (.int bv), .val (.int bit), .val (.ref b41), .val (.int (1 : Int32)), .val (.int (bit &&& (31 : Int32)))] [(.int c1), (.int (own_off c1 bit))])) _
      exact k
    have pre101 : ∀ t, Steps p.tables e below (T93.setTop (mkF m 91 #[.val (.int c0), .val (.int c1), .val (.int c2), .val (.int bv), .val (.int bit), .val (.ref b41), .val (.int (1 : Int32)), .val (.int (bit &&& (31 : Int32)))] [(.int (bit &&& (31 : Int32))), (.int (1 : Int32)), (.int c1), (.int (own_off c1 bit))])) t → Steps p.tables e below (s₁.setTop (entryFrame m #[(.int c0), (.int c1), (.int c2), (.int bv)] maxLocals)) t := fun t k => by
      refine pre100 _ ?_
      show Steps p.tables e below (T93.setTop (mkF m 84 #[.val (.int c0), .val (.int c1), .val (.int c2), .val (.int bv), .val (.int bit), .val (.ref b41), .val (.int (1 : Int32)), .val (.int (bit &&& (31 : Int32)))] [(.int c1), (.int (own_off c1 bit))])) _
      refine XS.iconst X93.here hx rfl (hb hby at_84) ?_
      show Steps p.tables e below (T93.setTop (mkF m 85 #[.val (.int c0), .val (.int c1), .val (.int c2), .val (.int bv), .val (.int bit), .val (.ref b41), .val (.int (1 : Int32)), .val (.int (bit &&& (31 : Int32)))] [(.int (1 : Int32)), (.int c1), (.int (own_off c1 bit))])) _
      refine XS.goto X93.here hx rfl (pc0 := 85) (pc' := 89) rfl (hb hby at_85) (by decide) (by decide) ?_
      show Steps p.tables e below (T93.setTop (mkF m 89 #[.val (.int c0), .val (.int c1), .val (.int c2), .val (.int bv), .val (.int bit), .val (.ref b41), .val (.int (1 : Int32)), .val (.int (bit &&& (31 : Int32)))] [(.int (1 : Int32)), (.int c1), (.int (own_off c1 bit))])) _
      refine XS.iload X93.here hx rfl (hb hby at_89) rfl ?_
      show Steps p.tables e below (T93.setTop (mkF m 91 #[.val (.int c0), .val (.int c1), .val (.int c2), .val (.int bv), .val (.int bit), .val (.ref b41), .val (.int (1 : Int32)), .val (.int (bit &&& (31 : Int32)))] [(.int (bit &&& (31 : Int32))), (.int (1 : Int32)), (.int c1), (.int (own_off c1 bit))])) _
      exact k
    obtain ⟨_, _, ⟨T102, L102, k102, n102⟩, -, X102, ⟨Lc102, hQ102, l102, y102, z102⟩, st102⟩ := Jvm.LawKit.callS X93 hx (y := (⟨"com/example/pertinet/pertinet/explore/StateDeactivatePinLaw", "expect", "(IZI)I"⟩ : MethodName)) hown (mvT hZ (hw _ (List.mem_of_getElem? (i := 9) rfl))) (mvT hZ (hw _ (List.mem_of_getElem? (i := 10) rfl))) (mvT hZ (hw _ (List.mem_of_getElem? (i := 11) rfl))) (mvT hZ (hw _ (List.mem_of_getElem? (i := 12) rfl))) (by decide) (backOf (W := 1) (rm3 l Z aZ hw [] c1 (1 : Int32) (bit &&& (31 : Int32))  T83.heap n0 Zs83 ) hZ (hw _ (List.mem_of_getElem? (i := 12) rfl)) (hw _ (List.mem_of_getElem? (i := 11) rfl)) (by decide) (by decide)) (g := (mkF m 91 #[.val (.int c0), .val (.int c1), .val (.int c2), .val (.int bv), .val (.int bit), .val (.ref b41), .val (.int (1 : Int32)), .val (.int (bit &&& (31 : Int32)))] [(.int (bit &&& (31 : Int32))), (.int (1 : Int32)), (.int c1), (.int (own_off c1 bit))])) rfl (by rw [hml]; rfl) (argsL := [(.int c1), (.int (1 : Int32)), (.int (bit &&& (31 : Int32)))]) (rest := [(.int (own_off c1 bit))]) (lenOf pd_2 rfl) rfl (by show 2 * 0 + _ ≤ _; exact Nat.le_of_eq rfl) (hb hby at_91) (fun _ _ => ⟨rfl, e93, (by decide : 1 + 0 ≤ _), (by decide : 3 + 0 ≤ _)⟩)
    dsimp only [Pt.U, Pt.locs, Pt.cells, Pt.slots] at X102 l102 y102 z102 st102 hQ102
    subst l102 y102 z102
    obtain ⟨rfl, N102q, e102⟩ := hQ102
    have N102 := Fr.app N93 N102q
    have pre102 : ∀ t, Steps p.tables e below (T102.setTop (mkF m 94 #[.val (.int c0), .val (.int c1), .val (.int c2), .val (.int bv), .val (.int bit), .val (.ref b41), .val (.int (1 : Int32)), .val (.int (bit &&& (31 : Int32)))] [(.int (f3 c1 (1 : Int32) (bit &&& (31 : Int32)))), (.int (own_off c1 bit))])) t → Steps p.tables e below (s₁.setTop (entryFrame m #[(.int c0), (.int c1), (.int c2), (.int bv)] maxLocals)) t := fun t k => pre101 _ (st102 t k)
    have pre104 : ∀ t, Steps p.tables e below (T102.setTop (mkF m 97 #[.val (.int c0), .val (.int c1), .val (.int c2), .val (.int bv), .val (.int bit), .val (.ref b41), .val (.int (1 : Int32)), .val (.int (bit &&& (31 : Int32)))] [])) t → Steps p.tables e below (s₁.setTop (entryFrame m #[(.int c0), (.int c1), (.int c2), (.int bv)] maxLocals)) t := fun t k => by
      refine pre102 _ ?_
      show Steps p.tables e below (T102.setTop (mkF m 94 #[.val (.int c0), .val (.int c1), .val (.int c2), .val (.int bv), .val (.int bit), .val (.ref b41), .val (.int (1 : Int32)), .val (.int (bit &&& (31 : Int32)))] [(.int (f3 c1 (1 : Int32) (bit &&& (31 : Int32)))), (.int (own_off c1 bit))])) _
      refine XS.icmpNo X102.here hx rfl (hb hby at_94) rfl (teq (own_here _ _)).2 ?_
      show Steps p.tables e below (T102.setTop (mkF m 97 #[.val (.int c0), .val (.int c1), .val (.int c2), .val (.int bv), .val (.int bit), .val (.ref b41), .val (.int (1 : Int32)), .val (.int (bit &&& (31 : Int32)))] [])) _
      exact k
    have pre105 : ∀ t, Steps p.tables e below (T102.setTop (mkF m 100 #[.val (.int c0), .val (.int c1), .val (.int c2), .val (.int bv), .val (.int bit), .val (.ref b41), .val (.int (1 : Int32)), .val (.int (bit &&& (31 : Int32)))] [(.int (2 : Int32)), (.ref b41)])) t → Steps p.tables e below (s₁.setTop (entryFrame m #[(.int c0), (.int c1), (.int c2), (.int bv)] maxLocals)) t := fun t k => by
      refine pre104 _ ?_
      show Steps p.tables e below (T102.setTop (mkF m 97 #[.val (.int c0), .val (.int c1), .val (.int c2), .val (.int bv), .val (.int bit), .val (.ref b41), .val (.int (1 : Int32)), .val (.int (bit &&& (31 : Int32)))] [])) _
      refine XS.aload X102.here hx rfl (hb hby at_97) rfl rfl ?_
      show Steps p.tables e below (T102.setTop (mkF m 99 #[.val (.int c0), .val (.int c1), .val (.int c2), .val (.int bv), .val (.int bit), .val (.ref b41), .val (.int (1 : Int32)), .val (.int (bit &&& (31 : Int32)))] [(.ref b41)])) _
      refine XS.iconst X102.here hx rfl (hb hby at_99) ?_
      show Steps p.tables e below (T102.setTop (mkF m 100 #[.val (.int c0), .val (.int c1), .val (.int c2), .val (.int bv), .val (.int bit), .val (.ref b41), .val (.int (1 : Int32)), .val (.int (bit &&& (31 : Int32)))] [(.int (2 : Int32)), (.ref b41)])) _
      exact k
    have Vo_b41_106 := Vc83
    obtain ⟨cl_b41_106, Ar_b41_106, q_b41_106, S_b41_106, M_b41_106, H_b41_106, G_b41_106⟩ := Vo_b41_106
    have hin106 : ¬ ((2 : Int32) < 0 ∨ cl_b41_106.slots.size ≤ ((2 : Int32)).toNatClampNeg) := inb_of S_b41_106 ⟨by decide, by decide⟩
    have hat106 : cl_b41_106.slots[((2 : Int32)).toNatClampNeg]? = some (.int c2) := H_b41_106.at hin106 rfl
    have pre107 : ∀ t, Steps p.tables e below (T102.setTop (mkF m 101 #[.val (.int c0), .val (.int c1), .val (.int c2), .val (.int bv), .val (.int bit), .val (.ref b41), .val (.int (1 : Int32)), .val (.int (bit &&& (31 : Int32)))] [(.int c2)])) t → Steps p.tables e below (s₁.setTop (entryFrame m #[(.int c0), (.int c1), (.int c2), (.int bv)] maxLocals)) t := fun t k => pre105 _ (X102.iaload hx (j := (2 : Int32)) (v := (.int c2)) (by rw [e102]; exact Ar_b41_106.1) (State.isArrayOf_alike hZ.alike Ar_b41_106.2.1) Ar_b41_106.2.2 hin106 hat106 (g := (mkF m 100 #[.val (.int c0), .val (.int c1), .val (.int c2), .val (.int bv), .val (.int bit), .val (.ref b41), .val (.int (1 : Int32)), .val (.int (bit &&& (31 : Int32)))] [(.int (2 : Int32)), (.ref b41)])) rfl rfl (hb hby at_100) t k)
    have pre108 : ∀ t, Steps p.tables e below (T102.setTop (mkF m 105 #[.val (.int c0), .val (.int c1), .val (.int c2), .val (.int bv), .val (.int bit), .val (.ref b41), .val (.int (1 : Int32)), .val (.int (bit &&& (31 : Int32)))] [(.int (2 : Int32)), (.int (1 : Int32)), (.int c2), (.int c2)])) t → Steps p.tables e below (s₁.setTop (entryFrame m #[(.int c0), (.int c1), (.int c2), (.int bv)] maxLocals)) t := fun t k => by
      refine pre107 _ ?_
      show Steps p.tables e below (T102.setTop (mkF m 101 #[.val (.int c0), .val (.int c1), .val (.int c2), .val (.int bv), .val (.int bit), .val (.ref b41), .val (.int (1 : Int32)), .val (.int (bit &&& (31 : Int32)))] [(.int c2)])) _
      refine XS.iloadN X102.here hx rfl (hb hby at_101) rfl ?_
      show Steps p.tables e below (T102.setTop (mkF m 102 #[.val (.int c0), .val (.int c1), .val (.int c2), .val (.int bv), .val (.int bit), .val (.ref b41), .val (.int (1 : Int32)), .val (.int (bit &&& (31 : Int32)))] [(.int c2), (.int c2)])) _
      refine XS.iload X102.here hx rfl (hb hby at_102) rfl ?_
      show Steps p.tables e below (T102.setTop (mkF m 104 #[.val (.int c0), .val (.int c1), .val (.int c2), .val (.int bv), .val (.int bit), .val (.ref b41), .val (.int (1 : Int32)), .val (.int (bit &&& (31 : Int32)))] [(.int (1 : Int32)), (.int c2), (.int c2)])) _
      refine XS.iconst X102.here hx rfl (hb hby at_104) ?_
      show Steps p.tables e below (T102.setTop (mkF m 105 #[.val (.int c0), .val (.int c1), .val (.int c2), .val (.int bv), .val (.int bit), .val (.ref b41), .val (.int (1 : Int32)), .val (.int (bit &&& (31 : Int32)))] [(.int (2 : Int32)), (.int (1 : Int32)), (.int c2), (.int c2)])) _
      exact k
    have pre109 : ∀ t, Steps p.tables e below (T102.setTop (mkF m 112 #[.val (.int c0), .val (.int c1), .val (.int c2), .val (.int bv), .val (.int bit), .val (.ref b41), .val (.int (1 : Int32)), .val (.int (bit &&& (31 : Int32)))] [(.int c2), (.int c2)])) t → Steps p.tables e below (s₁.setTop (entryFrame m #[(.int c0), (.int c1), (.int c2), (.int bv)] maxLocals)) t := fun t k => by
      refine pre108 _ ?_
      show Steps p.tables e below (T102.setTop (mkF m 105 #[.val (.int c0), .val (.int c1), .val (.int c2), .val (.int bv), .val (.int bit), .val (.ref b41), .val (.int (1 : Int32)), .val (.int (bit &&& (31 : Int32)))] [(.int (2 : Int32)), (.int (1 : Int32)), (.int c2), (.int c2)])) _
      refine XS.icmpYes X102.here hx rfl (pc0 := 105) (pc' := 112) rfl (hb hby at_105) rfl (feq (by decide : ¬ ((1 : Int32) = (2 : Int32)))).2 (by decide) (by decide) ?_
      show Steps p.tables e below (T102.setTop (mkF m 112 #[.val (.int c0), .val (.int c1), .val (.int c2), .val (.int bv), .val (.int bit), .val (.ref b41), .val (.int (1 : Int32)), .val (.int (bit &&& (31 : Int32)))] [(.int c2), (.int c2)])) _
      exact k
    have pre110 : ∀ t, Steps p.tables e below (T102.setTop (mkF m 115 #[.val (.int c0), .val (.int c1), .val (.int c2), .val (.int bv), .val (.int bit), .val (.ref b41), .val (.int (1 : Int32)), .val (.int (bit &&& (31 : Int32)))] [(.int (bit &&& (31 : Int32))), (.int (0 : Int32)), (.int c2), (.int c2)])) t → Steps p.tables e below (s₁.setTop (entryFrame m #[(.int c0), (.int c1), (.int c2), (.int bv)] maxLocals)) t := fun t k => by
      refine pre109 _ ?_
      show Steps p.tables e below (T102.setTop (mkF m 112 #[.val (.int c0), .val (.int c1), .val (.int c2), .val (.int bv), .val (.int bit), .val (.ref b41), .val (.int (1 : Int32)), .val (.int (bit &&& (31 : Int32)))] [(.int c2), (.int c2)])) _
      refine XS.iconst X102.here hx rfl (hb hby at_112) ?_
      show Steps p.tables e below (T102.setTop (mkF m 113 #[.val (.int c0), .val (.int c1), .val (.int c2), .val (.int bv), .val (.int bit), .val (.ref b41), .val (.int (1 : Int32)), .val (.int (bit &&& (31 : Int32)))] [(.int (0 : Int32)), (.int c2), (.int c2)])) _
      refine XS.iload X102.here hx rfl (hb hby at_113) rfl ?_
      show Steps p.tables e below (T102.setTop (mkF m 115 #[.val (.int c0), .val (.int c1), .val (.int c2), .val (.int bv), .val (.int bit), .val (.ref b41), .val (.int (1 : Int32)), .val (.int (bit &&& (31 : Int32)))] [(.int (bit &&& (31 : Int32))), (.int (0 : Int32)), (.int c2), (.int c2)])) _
      exact k
    obtain ⟨_, _, ⟨T111, L111, k111, n111⟩, -, X111, ⟨Lc111, hQ111, l111, y111, z111⟩, st111⟩ := Jvm.LawKit.callS X102 hx (y := (⟨"com/example/pertinet/pertinet/explore/StateDeactivatePinLaw", "expect", "(IZI)I"⟩ : MethodName)) hown (mvT hZ (hw _ (List.mem_of_getElem? (i := 9) rfl))) (mvT hZ (hw _ (List.mem_of_getElem? (i := 10) rfl))) (mvT hZ (hw _ (List.mem_of_getElem? (i := 11) rfl))) (mvT hZ (hw _ (List.mem_of_getElem? (i := 12) rfl))) (by decide) (backOf (W := 1) (rm3 l Z aZ hw [] c2 (0 : Int32) (bit &&& (31 : Int32))  T83.heap n0 Zs83 ) hZ (hw _ (List.mem_of_getElem? (i := 12) rfl)) (hw _ (List.mem_of_getElem? (i := 11) rfl)) (by decide) (by decide)) (g := (mkF m 115 #[.val (.int c0), .val (.int c1), .val (.int c2), .val (.int bv), .val (.int bit), .val (.ref b41), .val (.int (1 : Int32)), .val (.int (bit &&& (31 : Int32)))] [(.int (bit &&& (31 : Int32))), (.int (0 : Int32)), (.int c2), (.int c2)])) rfl (by rw [hml]; rfl) (argsL := [(.int c2), (.int (0 : Int32)), (.int (bit &&& (31 : Int32)))]) (rest := [(.int c2)]) (lenOf pd_2 rfl) rfl (by show 2 * 0 + _ ≤ _; exact Nat.le_of_eq rfl) (hb hby at_115) (fun _ _ => ⟨rfl, e102, (by decide : 1 + 0 ≤ _), (by decide : 3 + 0 ≤ _)⟩)
    dsimp only [Pt.U, Pt.locs, Pt.cells, Pt.slots] at X111 l111 y111 z111 st111 hQ111
    subst l111 y111 z111
    obtain ⟨rfl, N111q, e111⟩ := hQ111
    have N111 := Fr.app N102 N111q
    have pre111 : ∀ t, Steps p.tables e below (T111.setTop (mkF m 118 #[.val (.int c0), .val (.int c1), .val (.int c2), .val (.int bv), .val (.int bit), .val (.ref b41), .val (.int (1 : Int32)), .val (.int (bit &&& (31 : Int32)))] [(.int (f3 c2 (0 : Int32) (bit &&& (31 : Int32)))), (.int c2)])) t → Steps p.tables e below (s₁.setTop (entryFrame m #[(.int c0), (.int c1), (.int c2), (.int bv)] maxLocals)) t := fun t k => pre110 _ (st111 t k)
    have pre113 : ∀ t, Steps p.tables e below (T111.setTop (mkF m 121 #[.val (.int c0), .val (.int c1), .val (.int c2), .val (.int bv), .val (.int bit), .val (.ref b41), .val (.int (1 : Int32)), .val (.int (bit &&& (31 : Int32)))] [])) t → Steps p.tables e below (s₁.setTop (entryFrame m #[(.int c0), (.int c1), (.int c2), (.int bv)] maxLocals)) t := fun t k => by
      refine pre111 _ ?_
      show Steps p.tables e below (T111.setTop (mkF m 118 #[.val (.int c0), .val (.int c1), .val (.int c2), .val (.int bv), .val (.int bit), .val (.ref b41), .val (.int (1 : Int32)), .val (.int (bit &&& (31 : Int32)))] [(.int (f3 c2 (0 : Int32) (bit &&& (31 : Int32)))), (.int c2)])) _
      refine XS.icmpNo X111.here hx rfl (hb hby at_118) rfl (teq (own_not _ _)).2 ?_
      show Steps p.tables e below (T111.setTop (mkF m 121 #[.val (.int c0), .val (.int c1), .val (.int c2), .val (.int bv), .val (.int bit), .val (.ref b41), .val (.int (1 : Int32)), .val (.int (bit &&& (31 : Int32)))] [])) _
      exact k
    have pre114 : ∀ t, Steps p.tables e below (T111.setTop (mkF m 126 #[.val (.int c0), .val (.int c1), .val (.int c2), .val (.int bv), .val (.int bit), .val (.ref b41), .val (.int (1 : Int32)), .val (.int (bit &&& (31 : Int32)))] [(.int (1 : Int32))])) t → Steps p.tables e below (s₁.setTop (entryFrame m #[(.int c0), (.int c1), (.int c2), (.int bv)] maxLocals)) t := fun t k => by
      refine pre113 _ ?_
      show Steps p.tables e below (T111.setTop (mkF m 121 #[.val (.int c0), .val (.int c1), .val (.int c2), .val (.int bv), .val (.int bit), .val (.ref b41), .val (.int (1 : Int32)), .val (.int (bit &&& (31 : Int32)))] [])) _
      refine XS.iconst X111.here hx rfl (hb hby at_121) ?_
      show Steps p.tables e below (T111.setTop (mkF m 122 #[.val (.int c0), .val (.int c1), .val (.int c2), .val (.int bv), .val (.int bit), .val (.ref b41), .val (.int (1 : Int32)), .val (.int (bit &&& (31 : Int32)))] [(.int (1 : Int32))])) _
      refine XS.goto X111.here hx rfl (pc0 := 122) (pc' := 126) rfl (hb hby at_122) (by decide) (by decide) ?_
      show Steps p.tables e below (T111.setTop (mkF m 126 #[.val (.int c0), .val (.int c1), .val (.int c2), .val (.int bv), .val (.int bit), .val (.ref b41), .val (.int (1 : Int32)), .val (.int (bit &&& (31 : Int32)))] [(.int (1 : Int32))])) _
      exact k
    obtain ⟨fs, hr, hrun, hended, hW, hsame⟩ := X111.leave (v := some (.int (1 : Int32))) (fun h => by rw [Bd.returns] at h; cases h)
    refine ⟨_, _, pre114 _ ?_, hrun, hended, _, _, rfl, ?_, ⟨_, rfl⟩, hW, hsame.mono (by decide) (by decide)⟩
    · show Steps p.tables e below (T111.setTop (mkF m 126 #[.val (.int c0), .val (.int c1), .val (.int c2), .val (.int bv), .val (.int bit), .val (.ref b41), .val (.int (1 : Int32)), .val (.int (bit &&& (31 : Int32)))] [(.int (1 : Int32))])) _
      exact retN X111 hx (t := .boolean) Bd.returns (by simp) (hb hby at_126) hr
    · show Q0 c0 c1 c2 bv h0 n0 _ T111.heap _
      exact ⟨rfl, N111⟩
  · have hdv : bit / (32 : Int32) = (2 : Int32) := hi.1.trans hidx
    obtain ⟨_, _, ⟨T116, L116, k116, n116⟩, -, X116, ⟨Lc116, hQ116, l116, y116, z116⟩, st116⟩ := Jvm.LawKit.callS X47 hx (y := (⟨"com/example/pertinet/pertinet/explore/State", "deactivate", "([II)V"⟩ : MethodName)) hown (mvT hZ (hw _ (List.mem_of_getElem? (i := 2) rfl))) (mvT hZ (hw _ (List.mem_of_getElem? (i := 3) rfl))) (mvT hZ (hw _ (List.mem_of_getElem? (i := 4) rfl))) (mvT hZ (hw _ (List.mem_of_getElem? (i := 5) rfl))) (by decide) (backOf (W := 0) (rm1_2 l Z aZ hw [] b41 bit k41 c0 c1 c2 h47 n0 Zs47 F47_0 g_b41 hidx) hZ (hw _ (List.mem_of_getElem? (i := 5) rfl)) (hw _ (List.mem_of_getElem? (i := 4) rfl)) (by decide) (by decide)) (g := (mkF m 33 #[.val (.int c0), .val (.int c1), .val (.int c2), .val (.int bv), .val (.int bit), .val (.ref b41), .unset, .unset] [(.int bit), (.ref b41)])) rfl (by rw [hml]; rfl) (argsL := [(.ref b41), (.int bit)]) (rest := []) (lenOf pd_0 rfl) rfl (by show 2 * 0 + _ ≤ _; exact Nat.le_of_eq rfl) (hb hby at_33) (fun _ _ => ⟨rfl, e47, (by decide : 1 + 0 ≤ _), (by decide : 3 + 0 ≤ _)⟩)
    dsimp only [Pt.U, Pt.locs, Pt.cells, Pt.slots] at X116 l116 y116 z116 st116 hQ116
    subst l116 y116 z116
    obtain ⟨rfl, N116q, Kc116, Vc116⟩ := hQ116
    have N116 := Fr.app N47 N116q
    have pre116 : ∀ t, Steps p.tables e below (T116.setTop (mkF m 36 #[.val (.int c0), .val (.int c1), .val (.int c2), .val (.int bv), .val (.int bit), .val (.ref b41), .unset, .unset] [])) t → Steps p.tables e below (s₁.setTop (entryFrame m #[(.int c0), (.int c1), (.int c2), (.int bv)] maxLocals)) t := fun t k => pre48 _ (st116 t k)
    have Zs116 : n0 ≤ T116.heap.size := Nat.le_trans Zs47 Kc116.1
    have K116 := K47.trans Kc116 (by intro x hx; simp only [List.mem_cons, List.not_mem_nil, or_false] at hx; rcases hx with rfl <;> first | exact Or.inr sz_b41)
    have pre117 : ∀ t, Steps p.tables e below (T116.setTop (mkF m 50 #[.val (.int c0), .val (.int c1), .val (.int c2), .val (.int bv), .val (.int bit), .val (.ref b41), .val (.int (bit / (32 : Int32))), .val (.int (bit - (bit / (32 : Int32)) * (32 : Int32)))] [])) t → Steps p.tables e below (s₁.setTop (entryFrame m #[(.int c0), (.int c1), (.int c2), (.int bv)] maxLocals)) t := fun t k => by
      refine pre116 _ ?_
      show Steps p.tables e below (T116.setTop (mkF m 36 #[.val (.int c0), .val (.int c1), .val (.int c2), .val (.int bv), .val (.int bit), .val (.ref b41), .unset, .unset] [])) _
      refine XS.iload X116.here hx rfl (hb hby at_36) rfl ?_
      show Steps p.tables e below (T116.setTop (mkF m 38 #[.val (.int c0), .val (.int c1), .val (.int c2), .val (.int bv), .val (.int bit), .val (.ref b41), .unset, .unset] [(.int bit)])) _
      refine XS.bipush X116.here hx rfl (hb hby at_38) ?_
      show Steps p.tables e below (T116.setTop (mkF m 40 #[.val (.int c0), .val (.int c1), .val (.int c2), .val (.int bv), .val (.int bit), .val (.ref b41), .unset, .unset] [(.int (32 : Int32)), (.int bit)])) _
      refine XS.idiv X116.here hx rfl (hb hby at_40) rfl (by decide) ?_
      show Steps p.tables e below (T116.setTop (mkF m 41 #[.val (.int c0), .val (.int c1), .val (.int c2), .val (.int bv), .val (.int bit), .val (.ref b41), .unset, .unset] [(.int (bit / (32 : Int32)))])) _
      refine XS.istore X116.here hx rfl (hb hby at_41) rfl (l' := #[.val (.int c0), .val (.int c1), .val (.int c2), .val (.int bv), .val (.int bit), .val (.ref b41), .val (.int (bit / (32 : Int32))), .unset]) rfl ?_
      show Steps p.tables e below (T116.setTop (mkF m 43 #[.val (.int c0), .val (.int c1), .val (.int c2), .val (.int bv), .val (.int bit), .val (.ref b41), .val (.int (bit / (32 : Int32))), .unset] [])) _
      refine XS.iload X116.here hx rfl (hb hby at_43) rfl ?_
      show Steps p.tables e below (T116.setTop (mkF m 45 #[.val (.int c0), .val (.int c1), .val (.int c2), .val (.int bv), .val (.int bit), .val (.ref b41), .val (.int (bit / (32 : Int32))), .unset] [(.int bit)])) _
      refine XS.bipush X116.here hx rfl (hb hby at_45) ?_
      show Steps p.tables e below (T116.setTop (mkF m 47 #[.val (.int c0), .val (.int c1), .val (.int c2), .val (.int bv), .val (.int bit), .val (.ref b41), .val (.int (bit / (32 : Int32))), .unset] [(.int (32 : Int32)), (.int bit)])) _
      refine XS.irem X116.here hx rfl (hb hby at_47) rfl (by decide) ?_
      show Steps p.tables e below (T116.setTop (mkF m 48 #[.val (.int c0), .val (.int c1), .val (.int c2), .val (.int bv), .val (.int bit), .val (.ref b41), .val (.int (bit / (32 : Int32))), .unset] [(.int (bit - (bit / (32 : Int32)) * (32 : Int32)))])) _
      refine XS.istore X116.here hx rfl (hb hby at_48) rfl (l' := #[.val (.int c0), .val (.int c1), .val (.int c2), .val (.int bv), .val (.int bit), .val (.ref b41), .val (.int (bit / (32 : Int32))), .val (.int (bit - (bit / (32 : Int32)) * (32 : Int32)))]) rfl ?_
      show Steps p.tables e below (T116.setTop (mkF m 50 #[.val (.int c0), .val (.int c1), .val (.int c2), .val (.int bv), .val (.int bit), .val (.ref b41), .val (.int (bit / (32 : Int32))), .val (.int (bit - (bit / (32 : Int32)) * (32 : Int32)))] [])) _
      exact k
    have pre118 : ∀ t, Steps p.tables e below (T116.setTop (mkF m 50 #[.val (.int c0), .val (.int c1), .val (.int c2), .val (.int bv), .val (.int bit), .val (.ref b41), .val (.int (bit / (32 : Int32))), .val (.int (bit &&& (31 : Int32)))] [])) t → Steps p.tables e below (s₁.setTop (entryFrame m #[(.int c0), (.int c1), (.int c2), (.int bv)] maxLocals)) t := by
      have q := pre117
      rw [hp] at q
      exact q
    have pre119 : ∀ t, Steps p.tables e below (T116.setTop (mkF m 50 #[.val (.int c0), .val (.int c1), .val (.int c2), .val (.int bv), .val (.int bit), .val (.ref b41), .val (.int (2 : Int32)), .val (.int (bit &&& (31 : Int32)))] [])) t → Steps p.tables e below (s₁.setTop (entryFrame m #[(.int c0), (.int c1), (.int c2), (.int bv)] maxLocals)) t := by
      have q := pre118
      rw [hdv] at q
      exact q
    have pre120 : ∀ t, Steps p.tables e below (T116.setTop (mkF m 53 #[.val (.int c0), .val (.int c1), .val (.int c2), .val (.int bv), .val (.int bit), .val (.ref b41), .val (.int (2 : Int32)), .val (.int (bit &&& (31 : Int32)))] [(.int (0 : Int32)), (.ref b41)])) t → Steps p.tables e below (s₁.setTop (entryFrame m #[(.int c0), (.int c1), (.int c2), (.int bv)] maxLocals)) t := fun t k => by
      refine pre119 _ ?_
      show Steps p.tables e below (T116.setTop (mkF m 50 #[.val (.int c0), .val (.int c1), .val (.int c2), .val (.int bv), .val (.int bit), .val (.ref b41), .val (.int (2 : Int32)), .val (.int (bit &&& (31 : Int32)))] [])) _
      refine XS.aload X116.here hx rfl (hb hby at_50) rfl rfl ?_
      show Steps p.tables e below (T116.setTop (mkF m 52 #[.val (.int c0), .val (.int c1), .val (.int c2), .val (.int bv), .val (.int bit), .val (.ref b41), .val (.int (2 : Int32)), .val (.int (bit &&& (31 : Int32)))] [(.ref b41)])) _
      refine XS.iconst X116.here hx rfl (hb hby at_52) ?_
      show Steps p.tables e below (T116.setTop (mkF m 53 #[.val (.int c0), .val (.int c1), .val (.int c2), .val (.int bv), .val (.int bit), .val (.ref b41), .val (.int (2 : Int32)), .val (.int (bit &&& (31 : Int32)))] [(.int (0 : Int32)), (.ref b41)])) _
      exact k
    have Vo_b41_121 := Vc116
    obtain ⟨cl_b41_121, Ar_b41_121, q_b41_121, S_b41_121, M_b41_121, H_b41_121, G_b41_121⟩ := Vo_b41_121
    have hin121 : ¬ ((0 : Int32) < 0 ∨ cl_b41_121.slots.size ≤ ((0 : Int32)).toNatClampNeg) := inb_of S_b41_121 ⟨by decide, by decide⟩
    have hat121 : cl_b41_121.slots[((0 : Int32)).toNatClampNeg]? = some (.int c0) := H_b41_121.at hin121 rfl
    have pre122 : ∀ t, Steps p.tables e below (T116.setTop (mkF m 54 #[.val (.int c0), .val (.int c1), .val (.int c2), .val (.int bv), .val (.int bit), .val (.ref b41), .val (.int (2 : Int32)), .val (.int (bit &&& (31 : Int32)))] [(.int c0)])) t → Steps p.tables e below (s₁.setTop (entryFrame m #[(.int c0), (.int c1), (.int c2), (.int bv)] maxLocals)) t := fun t k => pre120 _ (X116.iaload hx (j := (0 : Int32)) (v := (.int c0)) Ar_b41_121.1 (State.isArrayOf_alike hZ.alike Ar_b41_121.2.1) Ar_b41_121.2.2 hin121 hat121 (g := (mkF m 53 #[.val (.int c0), .val (.int c1), .val (.int c2), .val (.int bv), .val (.int bit), .val (.ref b41), .val (.int (2 : Int32)), .val (.int (bit &&& (31 : Int32)))] [(.int (0 : Int32)), (.ref b41)])) rfl rfl (hb hby at_53) t k)
    have pre123 : ∀ t, Steps p.tables e below (T116.setTop (mkF m 57 #[.val (.int c0), .val (.int c1), .val (.int c2), .val (.int bv), .val (.int bit), .val (.ref b41), .val (.int (2 : Int32)), .val (.int (bit &&& (31 : Int32)))] [(.int (2 : Int32)), (.int c0), (.int c0)])) t → Steps p.tables e below (s₁.setTop (entryFrame m #[(.int c0), (.int c1), (.int c2), (.int bv)] maxLocals)) t := fun t k => by
      refine pre122 _ ?_
      show Steps p.tables e below (T116.setTop (mkF m 54 #[.val (.int c0), .val (.int c1), .val (.int c2), .val (.int bv), .val (.int bit), .val (.ref b41), .val (.int (2 : Int32)), .val (.int (bit &&& (31 : Int32)))] [(.int c0)])) _
      refine XS.iloadN X116.here hx rfl (hb hby at_54) rfl ?_
      show Steps p.tables e below (T116.setTop (mkF m 55 #[.val (.int c0), .val (.int c1), .val (.int c2), .val (.int bv), .val (.int bit), .val (.ref b41), .val (.int (2 : Int32)), .val (.int (bit &&& (31 : Int32)))] [(.int c0), (.int c0)])) _
      refine XS.iload X116.here hx rfl (hb hby at_55) rfl ?_
      show Steps p.tables e below (T116.setTop (mkF m 57 #[.val (.int c0), .val (.int c1), .val (.int c2), .val (.int bv), .val (.int bit), .val (.ref b41), .val (.int (2 : Int32)), .val (.int (bit &&& (31 : Int32)))] [(.int (2 : Int32)), (.int c0), (.int c0)])) _
      exact k
    have pre124 : ∀ t, Steps p.tables e below (T116.setTop (mkF m 64 #[.val (.int c0), .val (.int c1), .val (.int c2), .val (.int bv), .val (.int bit), .val (.ref b41), .val (.int (2 : Int32)), .val (.int (bit &&& (31 : Int32)))] [(.int c0), (.int c0)])) t → Steps p.tables e below (s₁.setTop (entryFrame m #[(.int c0), (.int c1), (.int c2), (.int bv)] maxLocals)) t := fun t k => by
      refine pre123 _ ?_
      show Steps p.tables e below (T116.setTop (mkF m 57 #[.val (.int c0), .val (.int c1), .val (.int c2), .val (.int bv), .val (.int bit), .val (.ref b41), .val (.int (2 : Int32)), .val (.int (bit &&& (31 : Int32)))] [(.int (2 : Int32)), (.int c0), (.int c0)])) _
      refine XS.ifYes X116.here hx rfl (pc0 := 57) (pc' := 64) rfl (hb hby at_57) rfl ((if0 _ _).trans (feq (by decide : ¬ ((2 : Int32) = (0 : Int32)))).2) (by decide) (by decide) ?_
      show Steps p.tables e below (T116.setTop (mkF m 64 #[.val (.int c0), .val (.int c1), .val (.int c2), .val (.int bv), .val (.int bit), .val (.ref b41), .val (.int (2 : Int32)), .val (.int (bit &&& (31 : Int32)))] [(.int c0), (.int c0)])) _
      exact k
    have pre125 : ∀ t, Steps p.tables e below (T116.setTop (mkF m 67 #[.val (.int c0), .val (.int c1), .val (.int c2), .val (.int bv), .val (.int bit), .val (.ref b41), .val (.int (2 : Int32)), .val (.int (bit &&& (31 : Int32)))] [(.int (bit &&& (31 : Int32))), (.int (0 : Int32)), (.int c0), (.int c0)])) t → Steps p.tables e below (s₁.setTop (entryFrame m #[(.int c0), (.int c1), (.int c2), (.int bv)] maxLocals)) t := fun t k => by
      refine pre124 _ ?_
      show Steps p.tables e below (T116.setTop (mkF m 64 #[.val (.int c0), .val (.int c1), .val (.int c2), .val (.int bv), .val (.int bit), .val (.ref b41), .val (.int (2 : Int32)), .val (.int (bit &&& (31 : Int32)))] [(.int c0), (.int c0)])) _
      refine XS.iconst X116.here hx rfl (hb hby at_64) ?_
      show Steps p.tables e below (T116.setTop (mkF m 65 #[.val (.int c0), .val (.int c1), .val (.int c2), .val (.int bv), .val (.int bit), .val (.ref b41), .val (.int (2 : Int32)), .val (.int (bit &&& (31 : Int32)))] [(.int (0 : Int32)), (.int c0), (.int c0)])) _
      refine XS.iload X116.here hx rfl (hb hby at_65) rfl ?_
      show Steps p.tables e below (T116.setTop (mkF m 67 #[.val (.int c0), .val (.int c1), .val (.int c2), .val (.int bv), .val (.int bit), .val (.ref b41), .val (.int (2 : Int32)), .val (.int (bit &&& (31 : Int32)))] [(.int (bit &&& (31 : Int32))), (.int (0 : Int32)), (.int c0), (.int c0)])) _
      exact k
    obtain ⟨_, _, ⟨T126, L126, k126, n126⟩, -, X126, ⟨Lc126, hQ126, l126, y126, z126⟩, st126⟩ := Jvm.LawKit.callS X116 hx (y := (⟨"com/example/pertinet/pertinet/explore/StateDeactivatePinLaw", "expect", "(IZI)I"⟩ : MethodName)) hown (mvT hZ (hw _ (List.mem_of_getElem? (i := 9) rfl))) (mvT hZ (hw _ (List.mem_of_getElem? (i := 10) rfl))) (mvT hZ (hw _ (List.mem_of_getElem? (i := 11) rfl))) (mvT hZ (hw _ (List.mem_of_getElem? (i := 12) rfl))) (by decide) (backOf (W := 1) (rm3 l Z aZ hw [] c0 (0 : Int32) (bit &&& (31 : Int32))  T116.heap n0 Zs116 ) hZ (hw _ (List.mem_of_getElem? (i := 12) rfl)) (hw _ (List.mem_of_getElem? (i := 11) rfl)) (by decide) (by decide)) (g := (mkF m 67 #[.val (.int c0), .val (.int c1), .val (.int c2), .val (.int bv), .val (.int bit), .val (.ref b41), .val (.int (2 : Int32)), .val (.int (bit &&& (31 : Int32)))] [(.int (bit &&& (31 : Int32))), (.int (0 : Int32)), (.int c0), (.int c0)])) rfl (by rw [hml]; rfl) (argsL := [(.int c0), (.int (0 : Int32)), (.int (bit &&& (31 : Int32)))]) (rest := [(.int c0)]) (lenOf pd_2 rfl) rfl (by show 2 * 0 + _ ≤ _; exact Nat.le_of_eq rfl) (hb hby at_67) (fun _ _ => ⟨rfl, rfl, (by decide : 1 + 0 ≤ _), (by decide : 3 + 0 ≤ _)⟩)
    dsimp only [Pt.U, Pt.locs, Pt.cells, Pt.slots] at X126 l126 y126 z126 st126 hQ126
    subst l126 y126 z126
    obtain ⟨rfl, N126q, e126⟩ := hQ126
    have N126 := Fr.app N116 N126q
    have pre126 : ∀ t, Steps p.tables e below (T126.setTop (mkF m 70 #[.val (.int c0), .val (.int c1), .val (.int c2), .val (.int bv), .val (.int bit), .val (.ref b41), .val (.int (2 : Int32)), .val (.int (bit &&& (31 : Int32)))] [(.int (f3 c0 (0 : Int32) (bit &&& (31 : Int32)))), (.int c0)])) t → Steps p.tables e below (s₁.setTop (entryFrame m #[(.int c0), (.int c1), (.int c2), (.int bv)] maxLocals)) t := fun t k => pre125 _ (st126 t k)
    have pre128 : ∀ t, Steps p.tables e below (T126.setTop (mkF m 73 #[.val (.int c0), .val (.int c1), .val (.int c2), .val (.int bv), .val (.int bit), .val (.ref b41), .val (.int (2 : Int32)), .val (.int (bit &&& (31 : Int32)))] [])) t → Steps p.tables e below (s₁.setTop (entryFrame m #[(.int c0), (.int c1), (.int c2), (.int bv)] maxLocals)) t := fun t k => by
      refine pre126 _ ?_
      show Steps p.tables e below (T126.setTop (mkF m 70 #[.val (.int c0), .val (.int c1), .val (.int c2), .val (.int bv), .val (.int bit), .val (.ref b41), .val (.int (2 : Int32)), .val (.int (bit &&& (31 : Int32)))] [(.int (f3 c0 (0 : Int32) (bit &&& (31 : Int32)))), (.int c0)])) _
      refine XS.icmpNo X126.here hx rfl (hb hby at_70) rfl (teq (own_not _ _)).2 ?_
      show Steps p.tables e below (T126.setTop (mkF m 73 #[.val (.int c0), .val (.int c1), .val (.int c2), .val (.int bv), .val (.int bit), .val (.ref b41), .val (.int (2 : Int32)), .val (.int (bit &&& (31 : Int32)))] [])) _
      exact k
    have pre129 : ∀ t, Steps p.tables e below (T126.setTop (mkF m 76 #[.val (.int c0), .val (.int c1), .val (.int c2), .val (.int bv), .val (.int bit), .val (.ref b41), .val (.int (2 : Int32)), .val (.int (bit &&& (31 : Int32)))] [(.int (1 : Int32)), (.ref b41)])) t → Steps p.tables e below (s₁.setTop (entryFrame m #[(.int c0), (.int c1), (.int c2), (.int bv)] maxLocals)) t := fun t k => by
      refine pre128 _ ?_
      show Steps p.tables e below (T126.setTop (mkF m 73 #[.val (.int c0), .val (.int c1), .val (.int c2), .val (.int bv), .val (.int bit), .val (.ref b41), .val (.int (2 : Int32)), .val (.int (bit &&& (31 : Int32)))] [])) _
      refine XS.aload X126.here hx rfl (hb hby at_73) rfl rfl ?_
      show Steps p.tables e below (T126.setTop (mkF m 75 #[.val (.int c0), .val (.int c1), .val (.int c2), .val (.int bv), .val (.int bit), .val (.ref b41), .val (.int (2 : Int32)), .val (.int (bit &&& (31 : Int32)))] [(.ref b41)])) _
      refine XS.iconst X126.here hx rfl (hb hby at_75) ?_
      show Steps p.tables e below (T126.setTop (mkF m 76 #[.val (.int c0), .val (.int c1), .val (.int c2), .val (.int bv), .val (.int bit), .val (.ref b41), .val (.int (2 : Int32)), .val (.int (bit &&& (31 : Int32)))] [(.int (1 : Int32)), (.ref b41)])) _
      exact k
    have Vo_b41_130 := Vc116
    obtain ⟨cl_b41_130, Ar_b41_130, q_b41_130, S_b41_130, M_b41_130, H_b41_130, G_b41_130⟩ := Vo_b41_130
    have hin130 : ¬ ((1 : Int32) < 0 ∨ cl_b41_130.slots.size ≤ ((1 : Int32)).toNatClampNeg) := inb_of S_b41_130 ⟨by decide, by decide⟩
    have hat130 : cl_b41_130.slots[((1 : Int32)).toNatClampNeg]? = some (.int c1) := H_b41_130.at hin130 rfl
    have pre131 : ∀ t, Steps p.tables e below (T126.setTop (mkF m 77 #[.val (.int c0), .val (.int c1), .val (.int c2), .val (.int bv), .val (.int bit), .val (.ref b41), .val (.int (2 : Int32)), .val (.int (bit &&& (31 : Int32)))] [(.int c1)])) t → Steps p.tables e below (s₁.setTop (entryFrame m #[(.int c0), (.int c1), (.int c2), (.int bv)] maxLocals)) t := fun t k => pre129 _ (X126.iaload hx (j := (1 : Int32)) (v := (.int c1)) (by rw [e126]; exact Ar_b41_130.1) (State.isArrayOf_alike hZ.alike Ar_b41_130.2.1) Ar_b41_130.2.2 hin130 hat130 (g := (mkF m 76 #[.val (.int c0), .val (.int c1), .val (.int c2), .val (.int bv), .val (.int bit), .val (.ref b41), .val (.int (2 : Int32)), .val (.int (bit &&& (31 : Int32)))] [(.int (1 : Int32)), (.ref b41)])) rfl rfl (hb hby at_76) t k)
    have pre132 : ∀ t, Steps p.tables e below (T126.setTop (mkF m 81 #[.val (.int c0), .val (.int c1), .val (.int c2), .val (.int bv), .val (.int bit), .val (.ref b41), .val (.int (2 : Int32)), .val (.int (bit &&& (31 : Int32)))] [(.int (1 : Int32)), (.int (2 : Int32)), (.int c1), (.int c1)])) t → Steps p.tables e below (s₁.setTop (entryFrame m #[(.int c0), (.int c1), (.int c2), (.int bv)] maxLocals)) t := fun t k => by
      refine pre131 _ ?_
      show Steps p.tables e below (T126.setTop (mkF m 77 #[.val (.int c0), .val (.int c1), .val (.int c2), .val (.int bv), .val (.int bit), .val (.ref b41), .val (.int (2 : Int32)), .val (.int (bit &&& (31 : Int32)))] [(.int c1)])) _
      refine XS.iloadN X126.here hx rfl (hb hby at_77) rfl ?_
      show Steps p.tables e below (T126.setTop (mkF m 78 #[.val (.int c0), .val (.int c1), .val (.int c2), .val (.int bv), .val (.int bit), .val (.ref b41), .val (.int (2 : Int32)), .val (.int (bit &&& (31 : Int32)))] [(.int c1), (.int c1)])) _
      refine XS.iload X126.here hx rfl (hb hby at_78) rfl ?_
      show Steps p.tables e below (T126.setTop (mkF m 80 #[.val (.int c0), .val (.int c1), .val (.int c2), .val (.int bv), .val (.int bit), .val (.ref b41), .val (.int (2 : Int32)), .val (.int (bit &&& (31 : Int32)))] [(.int (2 : Int32)), (.int c1), (.int c1)])) _
      refine XS.iconst X126.here hx rfl (hb hby at_80) ?_
      show Steps p.tables e below (T126.setTop (mkF m 81 #[.val (.int c0), .val (.int c1), .val (.int c2), .val (.int bv), .val (.int bit), .val (.ref b41), .val (.int (2 : Int32)), .val (.int (bit &&& (31 : Int32)))] [(.int (1 : Int32)), (.int (2 : Int32)), (.int c1), (.int c1)])) _
      exact k
    have pre133 : ∀ t, Steps p.tables e below (T126.setTop (mkF m 88 #[.val (.int c0), .val (.int c1), .val (.int c2), .val (.int bv), .val (.int bit), .val (.ref b41), .val (.int (2 : Int32)), .val (.int (bit &&& (31 : Int32)))] [(.int c1), (.int c1)])) t → Steps p.tables e below (s₁.setTop (entryFrame m #[(.int c0), (.int c1), (.int c2), (.int bv)] maxLocals)) t := fun t k => by
      refine pre132 _ ?_
      show Steps p.tables e below (T126.setTop (mkF m 81 #[.val (.int c0), .val (.int c1), .val (.int c2), .val (.int bv), .val (.int bit), .val (.ref b41), .val (.int (2 : Int32)), .val (.int (bit &&& (31 : Int32)))] [(.int (1 : Int32)), (.int (2 : Int32)), (.int c1), (.int c1)])) _
      refine XS.icmpYes X126.here hx rfl (pc0 := 81) (pc' := 88) rfl (hb hby at_81) rfl (feq (by decide : ¬ ((2 : Int32) = (1 : Int32)))).2 (by decide) (by decide) ?_
      show Steps p.tables e below (T126.setTop (mkF m 88 #[.val (.int c0), .val (.int c1), .val (.int c2), .val (.int bv), .val (.int bit), .val (.ref b41), .val (.int (2 : Int32)), .val (.int (bit &&& (31 : Int32)))] [(.int c1), (.int c1)])) _
      exact k
    have pre134 : ∀ t, Steps p.tables e below (T126.setTop (mkF m 91 #[.val (.int c0), .val (.int c1), .val (.int c2), .val (.int bv), .val (.int bit), .val (.ref b41), .val (.int (2 : Int32)), .val (.int (bit &&& (31 : Int32)))] [(.int (bit &&& (31 : Int32))), (.int (0 : Int32)), (.int c1), (.int c1)])) t → Steps p.tables e below (s₁.setTop (entryFrame m #[(.int c0), (.int c1), (.int c2), (.int bv)] maxLocals)) t := fun t k => by
      refine pre133 _ ?_
      show Steps p.tables e below (T126.setTop (mkF m 88 #[.val (.int c0), .val (.int c1), .val (.int c2), .val (.int bv), .val (.int bit), .val (.ref b41), .val (.int (2 : Int32)), .val (.int (bit &&& (31 : Int32)))] [(.int c1), (.int c1)])) _
      refine XS.iconst X126.here hx rfl (hb hby at_88) ?_
      show Steps p.tables e below (T126.setTop (mkF m 89 #[.val (.int c0), .val (.int c1), .val (.int c2), .val (.int bv), .val (.int bit), .val (.ref b41), .val (.int (2 : Int32)), .val (.int (bit &&& (31 : Int32)))] [(.int (0 : Int32)), (.int c1), (.int c1)])) _
      refine XS.iload X126.here hx rfl (hb hby at_89) rfl ?_
      show Steps p.tables e below (T126.setTop (mkF m 91 #[.val (.int c0), .val (.int c1), .val (.int c2), .val (.int bv), .val (.int bit), .val (.ref b41), .val (.int (2 : Int32)), .val (.int (bit &&& (31 : Int32)))] [(.int (bit &&& (31 : Int32))), (.int (0 : Int32)), (.int c1), (.int c1)])) _
      exact k
    obtain ⟨_, _, ⟨T135, L135, k135, n135⟩, -, X135, ⟨Lc135, hQ135, l135, y135, z135⟩, st135⟩ := Jvm.LawKit.callS X126 hx (y := (⟨"com/example/pertinet/pertinet/explore/StateDeactivatePinLaw", "expect", "(IZI)I"⟩ : MethodName)) hown (mvT hZ (hw _ (List.mem_of_getElem? (i := 9) rfl))) (mvT hZ (hw _ (List.mem_of_getElem? (i := 10) rfl))) (mvT hZ (hw _ (List.mem_of_getElem? (i := 11) rfl))) (mvT hZ (hw _ (List.mem_of_getElem? (i := 12) rfl))) (by decide) (backOf (W := 1) (rm3 l Z aZ hw [] c1 (0 : Int32) (bit &&& (31 : Int32))  T116.heap n0 Zs116 ) hZ (hw _ (List.mem_of_getElem? (i := 12) rfl)) (hw _ (List.mem_of_getElem? (i := 11) rfl)) (by decide) (by decide)) (g := (mkF m 91 #[.val (.int c0), .val (.int c1), .val (.int c2), .val (.int bv), .val (.int bit), .val (.ref b41), .val (.int (2 : Int32)), .val (.int (bit &&& (31 : Int32)))] [(.int (bit &&& (31 : Int32))), (.int (0 : Int32)), (.int c1), (.int c1)])) rfl (by rw [hml]; rfl) (argsL := [(.int c1), (.int (0 : Int32)), (.int (bit &&& (31 : Int32)))]) (rest := [(.int c1)]) (lenOf pd_2 rfl) rfl (by show 2 * 0 + _ ≤ _; exact Nat.le_of_eq rfl) (hb hby at_91) (fun _ _ => ⟨rfl, e126, (by decide : 1 + 0 ≤ _), (by decide : 3 + 0 ≤ _)⟩)
    dsimp only [Pt.U, Pt.locs, Pt.cells, Pt.slots] at X135 l135 y135 z135 st135 hQ135
    subst l135 y135 z135
    obtain ⟨rfl, N135q, e135⟩ := hQ135
    have N135 := Fr.app N126 N135q
    have pre135 : ∀ t, Steps p.tables e below (T135.setTop (mkF m 94 #[.val (.int c0), .val (.int c1), .val (.int c2), .val (.int bv), .val (.int bit), .val (.ref b41), .val (.int (2 : Int32)), .val (.int (bit &&& (31 : Int32)))] [(.int (f3 c1 (0 : Int32) (bit &&& (31 : Int32)))), (.int c1)])) t → Steps p.tables e below (s₁.setTop (entryFrame m #[(.int c0), (.int c1), (.int c2), (.int bv)] maxLocals)) t := fun t k => pre134 _ (st135 t k)
    have pre137 : ∀ t, Steps p.tables e below (T135.setTop (mkF m 97 #[.val (.int c0), .val (.int c1), .val (.int c2), .val (.int bv), .val (.int bit), .val (.ref b41), .val (.int (2 : Int32)), .val (.int (bit &&& (31 : Int32)))] [])) t → Steps p.tables e below (s₁.setTop (entryFrame m #[(.int c0), (.int c1), (.int c2), (.int bv)] maxLocals)) t := fun t k => by
      refine pre135 _ ?_
      show Steps p.tables e below (T135.setTop (mkF m 94 #[.val (.int c0), .val (.int c1), .val (.int c2), .val (.int bv), .val (.int bit), .val (.ref b41), .val (.int (2 : Int32)), .val (.int (bit &&& (31 : Int32)))] [(.int (f3 c1 (0 : Int32) (bit &&& (31 : Int32)))), (.int c1)])) _
      refine XS.icmpNo X135.here hx rfl (hb hby at_94) rfl (teq (own_not _ _)).2 ?_
      show Steps p.tables e below (T135.setTop (mkF m 97 #[.val (.int c0), .val (.int c1), .val (.int c2), .val (.int bv), .val (.int bit), .val (.ref b41), .val (.int (2 : Int32)), .val (.int (bit &&& (31 : Int32)))] [])) _
      exact k
    have pre138 : ∀ t, Steps p.tables e below (T135.setTop (mkF m 100 #[.val (.int c0), .val (.int c1), .val (.int c2), .val (.int bv), .val (.int bit), .val (.ref b41), .val (.int (2 : Int32)), .val (.int (bit &&& (31 : Int32)))] [(.int (2 : Int32)), (.ref b41)])) t → Steps p.tables e below (s₁.setTop (entryFrame m #[(.int c0), (.int c1), (.int c2), (.int bv)] maxLocals)) t := fun t k => by
      refine pre137 _ ?_
      show Steps p.tables e below (T135.setTop (mkF m 97 #[.val (.int c0), .val (.int c1), .val (.int c2), .val (.int bv), .val (.int bit), .val (.ref b41), .val (.int (2 : Int32)), .val (.int (bit &&& (31 : Int32)))] [])) _
      refine XS.aload X135.here hx rfl (hb hby at_97) rfl rfl ?_
      show Steps p.tables e below (T135.setTop (mkF m 99 #[.val (.int c0), .val (.int c1), .val (.int c2), .val (.int bv), .val (.int bit), .val (.ref b41), .val (.int (2 : Int32)), .val (.int (bit &&& (31 : Int32)))] [(.ref b41)])) _
      refine XS.iconst X135.here hx rfl (hb hby at_99) ?_
      show Steps p.tables e below (T135.setTop (mkF m 100 #[.val (.int c0), .val (.int c1), .val (.int c2), .val (.int bv), .val (.int bit), .val (.ref b41), .val (.int (2 : Int32)), .val (.int (bit &&& (31 : Int32)))] [(.int (2 : Int32)), (.ref b41)])) _
      exact k
    have Vo_b41_139 := Vc116
    obtain ⟨cl_b41_139, Ar_b41_139, q_b41_139, S_b41_139, M_b41_139, H_b41_139, G_b41_139⟩ := Vo_b41_139
    have hin139 : ¬ ((2 : Int32) < 0 ∨ cl_b41_139.slots.size ≤ ((2 : Int32)).toNatClampNeg) := inb_of S_b41_139 ⟨by decide, by decide⟩
    have hat139 : cl_b41_139.slots[((2 : Int32)).toNatClampNeg]? = some (.int (own_off c2 bit)) := H_b41_139.at hin139 rfl
    have pre140 : ∀ t, Steps p.tables e below (T135.setTop (mkF m 101 #[.val (.int c0), .val (.int c1), .val (.int c2), .val (.int bv), .val (.int bit), .val (.ref b41), .val (.int (2 : Int32)), .val (.int (bit &&& (31 : Int32)))] [(.int (own_off c2 bit))])) t → Steps p.tables e below (s₁.setTop (entryFrame m #[(.int c0), (.int c1), (.int c2), (.int bv)] maxLocals)) t := fun t k => pre138 _ (X135.iaload hx (j := (2 : Int32)) (v := (.int (own_off c2 bit))) (by rw [e135]; exact Ar_b41_139.1) (State.isArrayOf_alike hZ.alike Ar_b41_139.2.1) Ar_b41_139.2.2 hin139 hat139 (g := (mkF m 100 #[.val (.int c0), .val (.int c1), .val (.int c2), .val (.int bv), .val (.int bit), .val (.ref b41), .val (.int (2 : Int32)), .val (.int (bit &&& (31 : Int32)))] [(.int (2 : Int32)), (.ref b41)])) rfl rfl (hb hby at_100) t k)
    have pre141 : ∀ t, Steps p.tables e below (T135.setTop (mkF m 105 #[.val (.int c0), .val (.int c1), .val (.int c2), .val (.int bv), .val (.int bit), .val (.ref b41), .val (.int (2 : Int32)), .val (.int (bit &&& (31 : Int32)))] [(.int (2 : Int32)), (.int (2 : Int32)), (.int c2), (.int (own_off c2 bit))])) t → Steps p.tables e below (s₁.setTop (entryFrame m #[(.int c0), (.int c1), (.int c2), (.int bv)] maxLocals)) t := fun t k => by
      refine pre140 _ ?_
      show Steps p.tables e below (T135.setTop (mkF m 101 #[.val (.int c0), .val (.int c1), .val (.int c2), .val (.int bv), .val (.int bit), .val (.ref b41), .val (.int (2 : Int32)), .val (.int (bit &&& (31 : Int32)))] [(.int (own_off c2 bit))])) _
      refine XS.iloadN X135.here hx rfl (hb hby at_101) rfl ?_
      show Steps p.tables e below (T135.setTop (mkF m 102 #[.val (.int c0), .val (.int c1), .val (.int c2), .val (.int bv), .val (.int bit), .val (.ref b41), .val (.int (2 : Int32)), .val (.int (bit &&& (31 : Int32)))] [(.int c2), (.int (own_off c2 bit))])) _
      refine XS.iload X135.here hx rfl (hb hby at_102) rfl ?_
      show Steps p.tables e below (T135.setTop (mkF m 104 #[.val (.int c0), .val (.int c1), .val (.int c2), .val (.int bv), .val (.int bit), .val (.ref b41), .val (.int (2 : Int32)), .val (.int (bit &&& (31 : Int32)))] [(.int (2 : Int32)), (.int c2), (.int (own_off c2 bit))])) _
      refine XS.iconst X135.here hx rfl (hb hby at_104) ?_
      show Steps p.tables e below (T135.setTop (mkF m 105 #[.val (.int c0), .val (.int c1), .val (.int c2), .val (.int bv), .val (.int bit), .val (.ref b41), .val (.int (2 : Int32)), .val (.int (bit &&& (31 : Int32)))] [(.int (2 : Int32)), (.int (2 : Int32)), (.int c2), (.int (own_off c2 bit))])) _
      exact k
    have pre142 : ∀ t, Steps p.tables e below (T135.setTop (mkF m 108 #[.val (.int c0), .val (.int c1), .val (.int c2), .val (.int bv), .val (.int bit), .val (.ref b41), .val (.int (2 : Int32)), .val (.int (bit &&& (31 : Int32)))] [(.int c2), (.int (own_off c2 bit))])) t → Steps p.tables e below (s₁.setTop (entryFrame m #[(.int c0), (.int c1), (.int c2), (.int bv)] maxLocals)) t := fun t k => by
      refine pre141 _ ?_
      show Steps p.tables e below (T135.setTop (mkF m 105 #[.val (.int c0), .val (.int c1), .val (.int c2), .val (.int bv), .val (.int bit), .val (.ref b41), .val (.int (2 : Int32)), .val (.int (bit &&& (31 : Int32)))] [(.int (2 : Int32)), (.int (2 : Int32)), (.int c2), (.int (own_off c2 bit))])) _
      refine XS.icmpNo X135.here hx rfl (hb hby at_105) rfl (teq (by decide : (2 : Int32) = (2 : Int32))).2 ?_
      show Steps p.tables e below (T135.setTop (mkF m 108 #[.val (.int c0), .val (.int c1), .val (.int c2), .val (.int bv), .val (.int bit), .val (.ref b41), .val (.int (2 : Int32)), .val (.int (bit &&& (31 : Int32)))] [(.int c2), (.int (own_off c2 bit))])) _
      exact k
    have pre143 : ∀ t, Steps p.tables e below (T135.setTop (mkF m 115 #[.val (.int c0), .val (.int c1), .val (.int c2), .val (.int bv), .val (.int bit), .val (.ref b41), .val (.int (2 : Int32)), .val (.int (bit &&& (31 : Int32)))] [(.int (bit &&& (31 : Int32))), (.int (1 : Int32)), (.int c2), (.int (own_off c2 bit))])) t → Steps p.tables e below (s₁.setTop (entryFrame m #[(.int c0), (.int c1), (.int c2), (.int bv)] maxLocals)) t := fun t k => by
      refine pre142 _ ?_
      show Steps p.tables e below (T135.setTop (mkF m 108 #[.val (.int c0), .val (.int c1), .val (.int c2), .val (.int bv), .val (.int bit), .val (.ref b41), .val (.int (2 : Int32)), .val (.int (bit &&& (31 : Int32)))] [(.int c2), (.int (own_off c2 bit))])) _
      refine XS.iconst X135.here hx rfl (hb hby at_108) ?_
      show Steps p.tables e below (T135.setTop (mkF m 109 #[.val (.int c0), .val (.int c1), .val (.int c2), .val (.int bv), .val (.int bit), .val (.ref b41), .val (.int (2 : Int32)), .val (.int (bit &&& (31 : Int32)))] [(.int (1 : Int32)), (.int c2), (.int (own_off c2 bit))])) _
      refine XS.goto X135.here hx rfl (pc0 := 109) (pc' := 113) rfl (hb hby at_109) (by decide) (by decide) ?_
      show Steps p.tables e below (T135.setTop (mkF m 113 #[.val (.int c0), .val (.int c1), .val (.int c2), .val (.int bv), .val (.int bit), .val (.ref b41), .val (.int (2 : Int32)), .val (.int (bit &&& (31 : Int32)))] [(.int (1 : Int32)), (.int c2), (.int (own_off c2 bit))])) _
      refine XS.iload X135.here hx rfl (hb hby at_113) rfl ?_
      show Steps p.tables e below (T135.setTop (mkF m 115 #[.val (.int c0), .val (.int c1), .val (.int c2), .val (.int bv), .val (.int bit), .val (.ref b41), .val (.int (2 : Int32)), .val (.int (bit &&& (31 : Int32)))] [(.int (bit &&& (31 : Int32))), (.int (1 : Int32)), (.int c2), (.int (own_off c2 bit))])) _
      exact k
    obtain ⟨_, _, ⟨T144, L144, k144, n144⟩, -, X144, ⟨Lc144, hQ144, l144, y144, z144⟩, st144⟩ := Jvm.LawKit.callS X135 hx (y := (⟨"com/example/pertinet/pertinet/explore/StateDeactivatePinLaw", "expect", "(IZI)I"⟩ : MethodName)) hown (mvT hZ (hw _ (List.mem_of_getElem? (i := 9) rfl))) (mvT hZ (hw _ (List.mem_of_getElem? (i := 10) rfl))) (mvT hZ (hw _ (List.mem_of_getElem? (i := 11) rfl))) (mvT hZ (hw _ (List.mem_of_getElem? (i := 12) rfl))) (by decide) (backOf (W := 1) (rm3 l Z aZ hw [] c2 (1 : Int32) (bit &&& (31 : Int32))  T116.heap n0 Zs116 ) hZ (hw _ (List.mem_of_getElem? (i := 12) rfl)) (hw _ (List.mem_of_getElem? (i := 11) rfl)) (by decide) (by decide)) (g := (mkF m 115 #[.val (.int c0), .val (.int c1), .val (.int c2), .val (.int bv), .val (.int bit), .val (.ref b41), .val (.int (2 : Int32)), .val (.int (bit &&& (31 : Int32)))] [(.int (bit &&& (31 : Int32))), (.int (1 : Int32)), (.int c2), (.int (own_off c2 bit))])) rfl (by rw [hml]; rfl) (argsL := [(.int c2), (.int (1 : Int32)), (.int (bit &&& (31 : Int32)))]) (rest := [(.int (own_off c2 bit))]) (lenOf pd_2 rfl) rfl (by show 2 * 0 + _ ≤ _; exact Nat.le_of_eq rfl) (hb hby at_115) (fun _ _ => ⟨rfl, e135, (by decide : 1 + 0 ≤ _), (by decide : 3 + 0 ≤ _)⟩)
    dsimp only [Pt.U, Pt.locs, Pt.cells, Pt.slots] at X144 l144 y144 z144 st144 hQ144
    subst l144 y144 z144
    obtain ⟨rfl, N144q, e144⟩ := hQ144
    have N144 := Fr.app N135 N144q
    have pre144 : ∀ t, Steps p.tables e below (T144.setTop (mkF m 118 #[.val (.int c0), .val (.int c1), .val (.int c2), .val (.int bv), .val (.int bit), .val (.ref b41), .val (.int (2 : Int32)), .val (.int (bit &&& (31 : Int32)))] [(.int (f3 c2 (1 : Int32) (bit &&& (31 : Int32)))), (.int (own_off c2 bit))])) t → Steps p.tables e below (s₁.setTop (entryFrame m #[(.int c0), (.int c1), (.int c2), (.int bv)] maxLocals)) t := fun t k => pre143 _ (st144 t k)
    have pre146 : ∀ t, Steps p.tables e below (T144.setTop (mkF m 121 #[.val (.int c0), .val (.int c1), .val (.int c2), .val (.int bv), .val (.int bit), .val (.ref b41), .val (.int (2 : Int32)), .val (.int (bit &&& (31 : Int32)))] [])) t → Steps p.tables e below (s₁.setTop (entryFrame m #[(.int c0), (.int c1), (.int c2), (.int bv)] maxLocals)) t := fun t k => by
      refine pre144 _ ?_
      show Steps p.tables e below (T144.setTop (mkF m 118 #[.val (.int c0), .val (.int c1), .val (.int c2), .val (.int bv), .val (.int bit), .val (.ref b41), .val (.int (2 : Int32)), .val (.int (bit &&& (31 : Int32)))] [(.int (f3 c2 (1 : Int32) (bit &&& (31 : Int32)))), (.int (own_off c2 bit))])) _
      refine XS.icmpNo X144.here hx rfl (hb hby at_118) rfl (teq (own_here _ _)).2 ?_
      show Steps p.tables e below (T144.setTop (mkF m 121 #[.val (.int c0), .val (.int c1), .val (.int c2), .val (.int bv), .val (.int bit), .val (.ref b41), .val (.int (2 : Int32)), .val (.int (bit &&& (31 : Int32)))] [])) _
      exact k
    have pre147 : ∀ t, Steps p.tables e below (T144.setTop (mkF m 126 #[.val (.int c0), .val (.int c1), .val (.int c2), .val (.int bv), .val (.int bit), .val (.ref b41), .val (.int (2 : Int32)), .val (.int (bit &&& (31 : Int32)))] [(.int (1 : Int32))])) t → Steps p.tables e below (s₁.setTop (entryFrame m #[(.int c0), (.int c1), (.int c2), (.int bv)] maxLocals)) t := fun t k => by
      refine pre146 _ ?_
      show Steps p.tables e below (T144.setTop (mkF m 121 #[.val (.int c0), .val (.int c1), .val (.int c2), .val (.int bv), .val (.int bit), .val (.ref b41), .val (.int (2 : Int32)), .val (.int (bit &&& (31 : Int32)))] [])) _
      refine XS.iconst X144.here hx rfl (hb hby at_121) ?_
      show Steps p.tables e below (T144.setTop (mkF m 122 #[.val (.int c0), .val (.int c1), .val (.int c2), .val (.int bv), .val (.int bit), .val (.ref b41), .val (.int (2 : Int32)), .val (.int (bit &&& (31 : Int32)))] [(.int (1 : Int32))])) _
      refine XS.goto X144.here hx rfl (pc0 := 122) (pc' := 126) rfl (hb hby at_122) (by decide) (by decide) ?_
      show Steps p.tables e below (T144.setTop (mkF m 126 #[.val (.int c0), .val (.int c1), .val (.int c2), .val (.int bv), .val (.int bit), .val (.ref b41), .val (.int (2 : Int32)), .val (.int (bit &&& (31 : Int32)))] [(.int (1 : Int32))])) _
      exact k
    obtain ⟨fs, hr, hrun, hended, hW, hsame⟩ := X144.leave (v := some (.int (1 : Int32))) (fun h => by rw [Bd.returns] at h; cases h)
    refine ⟨_, _, pre147 _ ?_, hrun, hended, _, _, rfl, ?_, ⟨_, rfl⟩, hW, hsame.mono (by decide) (by decide)⟩
    · show Steps p.tables e below (T144.setTop (mkF m 126 #[.val (.int c0), .val (.int c1), .val (.int c2), .val (.int bv), .val (.int bit), .val (.ref b41), .val (.int (2 : Int32)), .val (.int (bit &&& (31 : Int32)))] [(.int (1 : Int32))])) _
      exact retN X144 hx (t := .boolean) Bd.returns (by simp) (hb hby at_126) hr
    · show Q0 c0 c1 c2 bv h0 n0 _ T144.heap _
      exact ⟨rfl, N144⟩
set_option maxRecDepth 65536 in
set_option maxHeartbeats 40000000 in
theorem comes_1 {Post : Tables → Env → Array Value → State → Outcome → State → Prop} (hpost : ∀ tb e args s v u, (limb_1_1.after args s (.returned v) u = true ∧ limb_1_2.after args s (.returned v) u = true ∧ True) → FrameEnd s (.returned v) u (Jvm.fieldLocs frame_1_writes args s ++ Jvm.arrayLocs frame_1_arrays args s ++ Jvm.staticLocs frame_1_statics s) 16 128 → Post tb e args s (.returned v) u) :
    ArmFor flags0 classFile x code maxLocals ret World_1 tables_1 room_1 Calls_1 rest_1 Pre_1 Post := by
  intro l hfl _ _ p e ha hc hk s m args below hf hA hF happ hP
  obtain ⟨hcalls, hrest, hpre⟩ := hP
  obtain ⟨-, -, -, hnamed, -, -, -, hat⟩ := (Spec.applies_iff hf).mp happ
  obtain ⟨hg, hn⟩ := and_e (Cond.before_iff.mp (show (Jvm.Cond.and given_1 narrow_1).before args s = true from hpre))
  obtain ⟨ga0, gb0⟩ := and_e hg
  obtain ⟨ga1, gb1⟩ := and_e gb0
  obtain ⟨ga2, gb2⟩ := and_e gb1
  obtain ⟨ga3, gb3⟩ := and_e gb2
  obtain ⟨w0, w1, w2, w3, rfl⟩ : ∃ w0 w1 w2 w3 : Value, args = #[w0, w1, w2, w3] := by
    have hs : args.size = 4 := by simpa [Cond.value, given_1] using ga0
    obtain ⟨L⟩ := args
    match L, hs with
    | [w0, w1, w2, w3], _ => exact ⟨w0, w1, w2, w3, rfl⟩
  have hw := fun d (hd : d ∈ tables_1) => atoms_spec (ws := Jvm.Cond.code x code maxLocals ret :: tables_1) hat d (List.mem_cons_of_mem _ hd)
  have hfit : Fit s := fun {y c} hc i hi => by
    obtain ⟨ha, rfl⟩ := Array.getElem?_eq_some_iff.mp hc
    have q := List.all_eq_true.mp ((Array.all_eq_true_iff_forall_mem.mp hF) _ (Array.getElem_mem ha)) i (List.mem_range.mpr hi)
    simpa [Array.getElem?_eq_getElem hi] using q
  obtain ⟨i0, ei0⟩ := is_v ga1
  obtain rfl : w0 = (.int i0) := Option.some.inj ei0
  obtain ⟨i1, ei1⟩ := is_v ga2
  obtain rfl : w1 = (.int i1) := Option.some.inj ei1
  obtain ⟨i2, ei2⟩ := is_v ga3
  obtain rfl : w2 = (.int i2) := Option.some.inj ei2
  obtain ⟨i3, ei3⟩ := is_v gb3
  obtain rfl : w3 = (.int i3) := Option.some.inj ei3
  obtain ⟨n, o, h1, h2, h3, _, L, rfl, ⟨rfl, N⟩, hq⟩ := rm0 l s _ hw tables_1 i0 i1 i2 i3  s.heap s.heap.size (Nat.le_refl _)  p e ha hc hk s m _ below hf ((Spec.applies_iff_loose hf).mp happ).1 ⟨rfl, State.Warmed39.refl s, rfl⟩ trivial
  refine ⟨n, _, h1, h2, h3, hpost _ _ _ _ _ _ ⟨Cond.after_iff.mpr rfl, Cond.after_iff.mpr (eq_i res_at (Term.int_eval (1)) rfl), trivial⟩ ⟨hq.1, hq.2.1, (hq.2.2.sift fun y hy => Or.inr (N y hy)).mono (by decide) (by decide)⟩⟩
theorem main_1_1 : Claimed_1_1 := comes_1 fun _ _ _ _ _ _ h hF => ⟨h.1, hF⟩
theorem main_1_2 : Claimed_1_2 := comes_1 fun _ _ _ _ _ _ h hF => ⟨h.2.1, hF⟩
end Jvm.Pilot.@@N@@
namespace Jvm.Pilot.@@N@@
open Jvm Jvm.ClassFile Sem Op Lib Jvm.Free Jvm.Stand Jvm.Pilot.@@N@@.Jvm.D
/-! MADE BY PROGRAM (witnessworld.py) out of the Statement's table words and the real class files: 9 classes; the members and pool entries that the words name. The judged class is class 1, her method 1. -/
namespace start1
open Jvm.ClassFile
def u (s : String) : CpInfo := .utf8 (stringToUtf16 s)
/-- a pool by its gaps: so many unusable entries, then the entry; so many at the end -/
def gap : Nat → List CpInfo → List CpInfo
  | 0, r => r
  | n + 1, r => .unusable :: gap n r
def poolList (es : List (Nat × CpInfo)) (last : Nat) : List CpInfo := es.foldr (fun e r => gap e.1 (e.2 :: r)) (gap last [])
def pool (es : List (Nat × CpInfo)) (last : Nat) : Array CpInfo := ⟨poolList es last⟩
def fileOf (pool : Array CpInfo) (this : Nat) (attrs : Array Attribute := #[]) (ms : Array MethodInfo := #[]) (fl : Nat := 33) (sup : Nat := 0) (ifs : Array Nat := #[]) (fds : Array FieldInfo := #[]) : ClassFile where
  minorVersion := 0
  majorVersion := 65
  constantPool := pool
  accessFlags := fl
  thisClass := this
  superClass := sup
  interfaces := ifs
  fields := fds
  methods := ms
  attributes := attrs
def plain (name : String) (sup : Option ClassId) : Class where
  name := name
  kind := .ordinary
  loader := none
  accessFlags := 33
  super := sup
  interfaces := #[]
  cf := none
  fields := #[]
  methods := #[]
  instanceTypes := #[]
  staticTypes := #[]
  resolved := #[]
  callSites := []
  init := .initialized
  statics := none
  mirror := none

def pool0 : Array CpInfo := pool [(5, u "<init>"), (0, u "()V"), (1, .class_ 10), (1, u "java/lang/Object")] 113

def k0m0 : Method := { name := "<init>", desc := "()V", sig := { parameters := [], returnType := none }, accessFlags := 1, code := none }
/-- java/lang/Object -/
def k0 : Class := { plain "java/lang/Object" none with
  accessFlags := 33
  interfaces := #[]
  cf := some (fileOf pool0 8 #[] #[{ accessFlags := 1, nameIndex := 5, descriptorIndex := 6, attributes := #[] }] 33 0 #[] #[])
  fields := #[]
  methods := #[k0m0]
  instanceTypes := #[]
  staticTypes := #[]
  resolved := Array.replicate 124 none
  statics := none }

def pool1 : Array CpInfo := pool [(2, .class_ 4), (1, u "java/lang/Object"), (0, u "<init>"), (0, u "()V"), (0, .integer 2147483647), (0, .methodref 9 10), (0, .class_ 11), (0, .nameAndType 12 13), (0, u "com/example/pertinet/pertinet/explore/State"), (0, u "deactivate"), (0, u "([II)V"), (0, .methodref 15 16), (0, .class_ 17), (0, .nameAndType 18 19), (0, u "com/example/pertinet/pertinet/explore/StateDeactivatePinLaw"), (0, u "expect"), (0, u "(IZI)I"), (2, u "law"), (0, u "(IIII)Z")] 5

def k1m0 : Method := { name := "<init>", desc := "()V", sig := { parameters := [], returnType := none }, accessFlags := 2, code := none }
def k1c1 : Code := { maxStack := 4, maxLocals := 8, code := code, exceptionTable := #[], attributes := #[] }
def k1m1 : Method := { name := "law", desc := "(IIII)Z", sig := { parameters := [.int, .int, .int, .int], returnType := some .boolean }, accessFlags := 9, code := some k1c1 }
def k1c2 : Code := { maxStack := 2, maxLocals := 4, code := method_3_code, exceptionTable := #[], attributes := #[] }
def k1m2 : Method := { name := "expect", desc := "(IZI)I", sig := { parameters := [.int, .boolean, .int], returnType := some .int }, accessFlags := 10, code := some k1c2 }
/-- com/example/pertinet/pertinet/explore/StateDeactivatePinLaw -/
def k1 : Class := { plain "com/example/pertinet/pertinet/explore/StateDeactivatePinLaw" (some 0) with
  accessFlags := 49
  interfaces := #[]
  cf := some (fileOf pool1 15 #[] #[{ accessFlags := 2, nameIndex := 5, descriptorIndex := 6, attributes := #[] }, { accessFlags := 9, nameIndex := 22, descriptorIndex := 23, attributes := #[] }, { accessFlags := 10, nameIndex := 18, descriptorIndex := 19, attributes := #[] }] 49 2 #[] #[])
  fields := #[]
  methods := #[k1m0, k1m1, k1m2]
  instanceTypes := #[]
  staticTypes := #[]
  resolved := Array.replicate 29 none
  statics := none }

def pool2 : Array CpInfo := pool [(2, .class_ 4), (1, u "java/lang/Object"), (0, u "<init>"), (0, u "()V"), (0, .methodref 8 9), (0, .class_ 10), (0, .nameAndType 11 12), (0, u "com/example/pertinet/pertinet/explore/State"), (0, u "cellOf"), (0, u "(I)I"), (14, u "([II)V"), (0, u "deactivate")] 2

def k2m0 : Method := { name := "<init>", desc := "()V", sig := { parameters := [], returnType := none }, accessFlags := 2, code := none }
def k2c1 : Code := { maxStack := 2, maxLocals := 1, code := prog_39_method_2_code, exceptionTable := #[], attributes := #[] }
def k2m1 : Method := { name := "cellOf", desc := "(I)I", sig := { parameters := [.int], returnType := some .int }, accessFlags := 8, code := some k2c1 }
def k2c2 : Code := { maxStack := 6, maxLocals := 2, code := prog_39_method_7_code, exceptionTable := #[], attributes := #[] }
def k2m2 : Method := { name := "deactivate", desc := "([II)V", sig := { parameters := [(.array .int), .int], returnType := none }, accessFlags := 8, code := some k2c2 }
/-- com/example/pertinet/pertinet/explore/State -/
def k2 : Class := { plain "com/example/pertinet/pertinet/explore/State" (some 0) with
  accessFlags := 32
  interfaces := #[]
  cf := some (fileOf pool2 8 #[] #[{ accessFlags := 2, nameIndex := 5, descriptorIndex := 6, attributes := #[] }, { accessFlags := 8, nameIndex := 11, descriptorIndex := 12, attributes := #[] }, { accessFlags := 8, nameIndex := 28, descriptorIndex := 27, attributes := #[] }] 32 2 #[] #[])
  fields := #[]
  methods := #[k2m0, k2m1, k2m2]
  instanceTypes := #[]
  staticTypes := #[]
  resolved := Array.replicate 31 none
  statics := none }

def pool3 : Array CpInfo := pool [(1, u "java/lang/Cloneable"), (0, .class_ 1), (0, u "java/lang/Object"), (0, .class_ 3)] 3

/-- java/lang/Cloneable -/
def k3 : Class := { plain "java/lang/Cloneable" (some 0) with
  accessFlags := 1537
  interfaces := #[]
  cf := some (fileOf pool3 2 #[] #[] 1537 4 #[] #[])
  fields := #[]
  methods := #[]
  instanceTypes := #[]
  staticTypes := #[]
  resolved := Array.replicate 8 none
  statics := none }

def pool4 : Array CpInfo := pool [(1, u "java/io/Serializable"), (0, .class_ 1), (0, u "java/lang/Object"), (0, .class_ 3)] 3

/-- java/io/Serializable -/
def k4 : Class := { plain "java/io/Serializable" (some 0) with
  accessFlags := 1537
  interfaces := #[]
  cf := some (fileOf pool4 2 #[] #[] 1537 4 #[] #[])
  fields := #[]
  methods := #[]
  instanceTypes := #[]
  staticTypes := #[]
  resolved := Array.replicate 8 none
  statics := none }

/-- the primitive byte -/
def k5 : Class := { plain "byte" none with kind := .primitive 'B', accessFlags := 0x411 }
/-- [B -/
def k6 : Class := { plain "[B" (some 0) with kind := .array 5 .byte, interfaces := #[3, 4], accessFlags := 1041 }

/-- the primitive int -/
def k7 : Class := { plain "int" none with kind := .primitive 'I', accessFlags := 0x411 }
/-- [I -/
def k8 : Class := { plain "[I" (some 0) with kind := .array 7 .int, interfaces := #[3, 4], accessFlags := 1041 }

def heap : Heap := #[]
def classes : Array Class := #[k0, k1, k2, k3, k4, k5, k6, k7, k8]
def interned : List (Array UInt16 × Addr) := []
def slotsUsed : Nat := 0
def theMethod : MethodId := ⟨1, 1⟩
def args0 : Array Value := #[.int 5, .int 9, .int 7, .int 0]
def aboutOver (below : List Frame) : State where
  vm := { classes := classes, interned := interned.toArray }
  heap := heap
  slotsUsed := slotsUsed
  threads := #[{ frames := .invoking theMethod args0 :: below }]
def below0 : List Frame := [.native { method := ⟨0, 0⟩, args := #[] }]
def about1 : State := aboutOver below0
def p0 : Program := .bare "" "" ""
def e0 : Env := launch0.env 0 0 0
theorem w_frames : about1.frames = Frame.invoking theMethod args0 :: below0 := rfl
set_option maxRecDepth 65536 in
theorem w_args : argsFit about1.vm theMethod args0 = true := by decide +kernel
set_option maxRecDepth 65536 in
theorem w_heap : heapFits about1 = true := by decide +kernel
set_option maxRecDepth 65536 in
theorem w_runnable : about1.curStatus? = some .runnable := by decide +kernel
set_option maxRecDepth 65536 in
theorem w_alone : about1.alone = true := by decide +kernel
set_option maxRecDepth 65536 in
theorem w_named : about1.methodNamed? x = some theMethod := by decide +kernel
set_option maxRecDepth 65536 in
theorem w_hears : about1.hears theMethod below0 = true := by decide +kernel
set_option maxRecDepth 65536 in
theorem w_ripe : about1.ripe theMethod args0 below0 = true := by decide +kernel
theorem w_running : about1.status = .running := rfl
set_option maxRecDepth 65536 in
theorem w_room : about1.hasRoom e0.platform room_1 = true :=
  launch0.hasRoom_least _ room_1 (by decide +kernel) (by decide +kernel) (by decide +kernel) (by decide +kernel) (by decide +kernel) (by decide +kernel)
theorem allAtoms_all (ts : List Jvm.Cond) (a : Array Jvm.Value) (st : Jvm.State) : (allAtoms ts).before a st = ts.all (fun c => c.before a st) := by
  induction ts with
  | nil => rfl
  | cons c t ih =>
    show (Jvm.Cond.and c (allAtoms t)).before a st = _
    rw [Jvm.Cond.before_and, ih, List.all_cons]
def words1 : List Jvm.Cond := Jvm.Cond.code x code maxLocals ret :: tables_1
/-- a 'code' word, met by the world's own term for the bytes: nothing is compared byte by byte -/
theorem code_word {y : MethodName} {bytes : ByteArray} {mx : Nat} {rt : Option FieldType} {a : Array Value} {s : State} {m : MethodId} {meth : Method} {c : Code} (h1 : s.methodNamed? y = some m) (h2 : s.vm.method? m = some meth) (h3 : meth.code = some c) (h4 : c.code = bytes)
    (h5 : (c.maxLocals == mx && c.exceptionTable.isEmpty && decide (c.maxStack ≤ mostOperands) && decide (meth.sig.returnType = rt) && !meth.locks && decide (parseMethodDescriptor y.desc = some meth.sig)) = true) : (Jvm.Cond.code y bytes mx rt).before a s = true := by
  simp only [Bool.and_eq_true, beq_iff_eq, Bool.not_eq_true', decide_eq_true_eq] at h5
  obtain ⟨⟨⟨⟨⟨g1, g2⟩, g3⟩, g4⟩, g5⟩, g6⟩ := h5
  simp [Cond.before, Cond.holds, Cond.value, h1, h2, h3, h4, g1, g2, g3, g4, g5, g6]
def isCode : Jvm.Cond → Bool
  | .code _ _ _ _ => true
  | _ => false
theorem all_split {L : List Jvm.Cond} {P : Jvm.Cond → Bool} (h1 : L.all (fun c => isCode c || P c) = true) (h2 : ∀ c ∈ L.filter isCode, P c = true) : L.all P = true := by
  refine List.all_eq_true.mpr fun c hc => ?_
  have h := List.all_eq_true.mp h1 c hc
  rcases Bool.eq_false_or_eq_true (isCode c) with hi | hi
  · exact h2 c (List.mem_filter.mpr ⟨hc, hi⟩)
  · simpa [hi] using h
set_option maxRecDepth 65536 in
theorem w_c0 : (Jvm.Cond.code x code maxLocals ret).before args0 about1 = true := code_word (m := ⟨1, 1⟩) (meth := k1m1) (c := k1c1) (by decide +kernel) rfl rfl rfl (by decide +kernel)
set_option maxRecDepth 65536 in
theorem w_c1 : (Jvm.Cond.code ({ cls := "com/example/pertinet/pertinet/explore/State", name := "deactivate", desc := "([II)V" } : Jvm.MethodName) prog_39_method_7_code (2 : Nat) (Option.none : Option Jvm.ClassFile.FieldType)).before args0 about1 = true := code_word (m := ⟨2, 2⟩) (meth := k2m2) (c := k2c2) (by decide +kernel) rfl rfl rfl (by decide +kernel)
set_option maxRecDepth 65536 in
theorem w_c2 : (Jvm.Cond.code ({ cls := "com/example/pertinet/pertinet/explore/State", name := "cellOf", desc := "(I)I" } : Jvm.MethodName) prog_39_method_2_code (1 : Nat) (Option.some Jvm.ClassFile.FieldType.int)).before args0 about1 = true := code_word (m := ⟨2, 1⟩) (meth := k2m1) (c := k2c1) (by decide +kernel) rfl rfl rfl (by decide +kernel)
set_option maxRecDepth 65536 in
theorem w_c3 : (Jvm.Cond.code ({ cls := "com/example/pertinet/pertinet/explore/StateDeactivatePinLaw", name := "expect", desc := "(IZI)I" } : Jvm.MethodName) method_3_code (4 : Nat) (Option.some Jvm.ClassFile.FieldType.int)).before args0 about1 = true := code_word (m := ⟨1, 2⟩) (meth := k1m2) (c := k1c2) (by decide +kernel) rfl rfl rfl (by decide +kernel)
def codes1 : List Jvm.Cond := [Jvm.Cond.code x code maxLocals ret, Jvm.Cond.code ({ cls := "com/example/pertinet/pertinet/explore/State", name := "deactivate", desc := "([II)V" } : Jvm.MethodName) prog_39_method_7_code (2 : Nat) (Option.none : Option Jvm.ClassFile.FieldType), Jvm.Cond.code ({ cls := "com/example/pertinet/pertinet/explore/State", name := "cellOf", desc := "(I)I" } : Jvm.MethodName) prog_39_method_2_code (1 : Nat) (Option.some Jvm.ClassFile.FieldType.int), Jvm.Cond.code ({ cls := "com/example/pertinet/pertinet/explore/StateDeactivatePinLaw", name := "expect", desc := "(IZI)I" } : Jvm.MethodName) method_3_code (4 : Nat) (Option.some Jvm.ClassFile.FieldType.int)]
set_option maxRecDepth 65536 in
theorem codes_eq : words1.filter isCode = codes1 := rfl
theorem w_codes : ∀ c ∈ words1.filter isCode, c.before args0 about1 = true := by
  rw [codes_eq]
  intro c hc
  simp only [codes1, List.mem_cons, List.not_mem_nil, or_false] at hc
  rcases hc with rfl | rfl | rfl | rfl
  · exact w_c0
  · exact w_c1
  · exact w_c2
  · exact w_c3
set_option maxRecDepth 65536 in
theorem w_t1 : words1.all (fun c => isCode c || c.before args0 about1) = true := by decide +kernel
theorem w_tables : (allAtoms (Jvm.Cond.code x code maxLocals ret :: tables_1)).before args0 about1 = true := by
  rw [allAtoms_all]
  show words1.all (fun c => c.before args0 about1) = true
  refine all_split ?_ w_codes
  rw [w_t1]
set_option maxRecDepth 65536 in
theorem w_case : (Jvm.Cond.and given_1 narrow_1).before args0 about1 = true := by decide +kernel
theorem w_applies : (headSpec (Jvm.Cond.code x code maxLocals ret :: tables_1) room_1).applies x e0.platform about1 = true :=
  (Spec.applies_iff w_frames).mpr ⟨w_running, w_runnable, w_alone, w_named, w_hears, w_ripe, w_room, w_tables⟩
theorem atStart : AtStart classFile x code maxLocals ret World_1 tables_1 room_1 Calls_1 rest_1 Pre_1 launch0 p0 e0 about1 theMethod args0 below0 :=
  ⟨lists_1, trivial, launch0.admits_env _ _ _, launch0.least_env, fairChoices_fair.cas, fairChoices_fair.clock, w_frames, w_args, w_heap, w_applies, trivial, trivial, w_case⟩
end start1
theorem witness_1 : WitnessClaimed_1 := ⟨start1.p0, start1.e0, start1.about1, start1.theMethod, start1.args0, start1.below0, start1.atStart⟩
end Jvm.Pilot.@@N@@

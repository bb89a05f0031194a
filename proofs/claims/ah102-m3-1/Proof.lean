import JvmDerived
import JvmDerived.Pilot.@@N@@Statement
import JvmDerived.Pilot.@@N@@Code
set_option linter.unusedVariables false
set_option linter.unusedSimpArgs false
@@BLOCK:NumsL.lean.txt@@
namespace Jvm.RoadKit
open Sem ClassFile Op Lib Jvm.Stand Jvm.Free Jvm.LawKit
section New
variable {p : Program} {l : Launch} {e : Env} {R : Room} {s : State} {m : MethodId} {args : Array Value} {below : List Frame} {meth : Method} {c : Code} {T : State} {locs : List Loc} {cells slots : Nat}
theorem retI (X : Stand p l e R s m args below meth c T locs cells slots) (hx : p.tables.exec = Jvm.exec) {pc : Nat} {Ls : Array Slot} {z : Int32} {rest : List Value} (hret : meth.sig.returnType = some .int) (hd : decode c.code pc = .ok (.ireturn, 1)) {fs : List Frame}
    (hl : ∀ (f : JFrame) (acts : List Action), f.method = m → f.locked = none → f.entered = [] → (doReturn e (T.setTop f) acts (some (.int z))).1 = T.setFrames fs) : Steps p.tables e below (T.setTop (mkF m pc Ls (.int z :: rest))) (T.setFrames fs) := by
  have hm' : T.vm.method? m = some meth := X.method'
  have hn : narrow .int (.int z) = .int z := rfl
  show Steps p.tables e below (T.setTop { method := m, pc := pc, locals := Ls, stack := _ :: rest, locked := none }) _
  jvm_step X.here [X.here.top, hx, hd, hm', hret, hn]
  first | (intro acts; rw [hl _ acts rfl rfl rfl]) | rw [hl _ _ rfl rfl rfl]
  exact Steps.refl _
end New
end Jvm.RoadKit
namespace Jvm.Pilot.@@N@@
open Jvm Jvm.ClassFile Sem Op Lib Jvm.Free Jvm.Stand Jvm.LawKit Jvm.RoadKit Bundle Jvm.Pilot.@@N@@.Jvm.D
theorem d2_0 : decode jdk_30_method_1_code 0 = .ok (.aload_n 0, 1) := by decide +kernel
theorem d2_1 : decode jdk_30_method_1_code 1 = .ok (.invokespecial 1, 3) := by decide +kernel
theorem d2_4 : decode jdk_30_method_1_code 4 = .ok (.return_, 1) := by decide +kernel
theorem pn_2 : plainName "java/lang/Record" = true := by first | (simp [plainName, overriddenIn]; done) | decide +kernel
theorem pd_0 : parseMethodDescriptor "([I[I[D)V" = some ⟨[(.array .int), (.array .int), (.array .double)], none⟩ := by decide +kernel
theorem pd_1 : parseMethodDescriptor "()V" = some ⟨[], none⟩ := by decide +kernel
theorem pd_2 : parseMethodDescriptor "(I)I" = some ⟨[.int], some .int⟩ := by decide +kernel
theorem ef_2 (m : MethodId) (x0 : Addr) : entryFrame m #[(.ref x0)] 1 = mkF m 0 #[.val (.ref x0)] [] := by first | (simp [entryFrame, mkF, argsToLocals, Value.category]; done) | rfl
def Q2 (h0 : Heap) (n0 : Nat) (v : Option Value) (h : Heap) (L : List Loc) : Prop := v = none ∧ Fr n0 L ∧ h = h0
set_option maxRecDepth 65536 in
set_option maxHeartbeats 40000000 in
theorem rm2 (l : Launch) (Z : State) (aZ : Array Value) (hw : ∀ d ∈ tables_1, d.before aZ Z = true) (ws : List Jvm.Cond) (a0 : Addr)  (h0 : Heap) (n0 : Nat) (Z0 : n0 ≤ h0.size)  :
    MetFree l (⟨"java/lang/Record", "<init>", "()V"⟩ : MethodName) (head1 (Jvm.Cond.code (⟨"java/lang/Record", "<init>", "()V"⟩ : MethodName) jdk_30_method_1_code 1 none :: ws) ({ frames := 1, cells := 0, slots := 0, locals := 12 } : Room)) (fun a U => a = #[(.ref a0)] ∧ Z.Warmed39 U.vm ∧ U.heap = h0) (fun _ _ _ _ _ => True) (fun _ U o U' => ∃ v L, o = .returned v ∧ Q2 h0 n0 v U'.heap L ∧ FrameEnd U o U' L ({ frames := 1, cells := 0, slots := 0, locals := 12 } : Room).cells ({ frames := 1, cells := 0, slots := 0, locals := 12 } : Room).slots) := by
  refine MetFree.of_bodySF (plainFor_of_name pn_2) hisR ?_
  intro p e s m args below meth c s₁ Bd hml0 hP hK
  obtain ⟨rfl, hZ, hh⟩ := hP
  have hx := Bd.exec
  have hby := Bd.bytes
  have hml : c.maxLocals = 1 := hml0
  have hown : s.vm.findClass "java/lang/Record" = some m.cls := findClass_of_methodNamed Bd.named
  have hnm := (name_of_methodNamed Bd.named Bd.method).1
  have X0 : Stand p l e ({ frames := 1, cells := 0, slots := 0, locals := 12 } : Room) s m #[(.ref a0)] below meth c s₁ [] 0 0 := Stand.of_body Bd
  have e0 : s₁.heap = h0 := by rw [← hh, Bd.state]; rfl
  have N0 := Fr.nil n0
  have pre0 : ∀ t, Steps p.tables e below (s₁.setTop (mkF m 0 #[.val (.ref a0)] [])) t → Steps p.tables e below (s₁.setTop (entryFrame m #[(.ref a0)] 1)) t := fun t k => castTop (ef_2 m a0) k
  have pre1 : ∀ t, Steps p.tables e below (s₁.setTop (mkF m 1 #[.val (.ref a0)] [(.ref a0)])) t → Steps p.tables e below (s₁.setTop (entryFrame m #[(.ref a0)] 1)) t := fun t k => by
    refine pre0 _ ?_
    show Steps p.tables e below (s₁.setTop (mkF m 0 #[.val (.ref a0)] [])) _
    refine XS.aloadN X0.here hx rfl (hb hby d2_0) rfl rfl ?_
    show Steps p.tables e below (s₁.setTop (mkF m 1 #[.val (.ref a0)] [(.ref a0)])) _
    exact k
  obtain ⟨T2, X2, e2, st2⟩ := initO X0 hx hZ hown (hw _ (List.mem_of_getElem? (i := 14) rfl)) (hw _ (List.mem_of_getElem? (i := 15) rfl)) (hw _ (List.mem_of_getElem? (i := 16) rfl)) e0 (g := (mkF m 1 #[.val (.ref a0)] [(.ref a0)])) rfl (by rw [hml]; rfl) rfl (hb hby d2_1) (by decide) (W := 0) (by show 2 * 0 + _ ≤ _; exact Nat.le_of_eq rfl) (by decide)
  have pre2 : ∀ t, Steps p.tables e below (T2.setTop (mkF m 4 #[.val (.ref a0)] [])) t → Steps p.tables e below (s₁.setTop (entryFrame m #[(.ref a0)] 1)) t := fun t k => pre1 _ (st2 t k)
  obtain ⟨fs, hr, hrun, hended, hW, hsame⟩ := X2.leave (v := none) (fun _ => rfl)
  refine ⟨_, _, pre2 _ ?_, hrun, hended, _, _, rfl, ?_, ⟨_, rfl⟩, hW, hsame.mono (by decide) (by decide)⟩
  · show Steps p.tables e below (T2.setTop (mkF m 4 #[.val (.ref a0)] [])) _
    exact X2.returnOut hx Bd.returns (hb hby d2_4) hr
  · show Q2 h0 n0 _ T2.heap _
    rw [e2]
    exact ⟨rfl, N0, rfl⟩
theorem d1_0 : decode prog_31_method_1_code 0 = .ok (.aload_n 0, 1) := by decide +kernel
theorem d1_1 : decode prog_31_method_1_code 1 = .ok (.invokespecial 1, 3) := by decide +kernel
theorem d1_4 : decode prog_31_method_1_code 4 = .ok (.aload_n 0, 1) := by decide +kernel
theorem d1_5 : decode prog_31_method_1_code 5 = .ok (.aload_n 1, 1) := by decide +kernel
theorem d1_6 : decode prog_31_method_1_code 6 = .ok (.putfield 7, 3) := by decide +kernel
theorem d1_9 : decode prog_31_method_1_code 9 = .ok (.aload_n 0, 1) := by decide +kernel
theorem d1_10 : decode prog_31_method_1_code 10 = .ok (.aload_n 2, 1) := by decide +kernel
theorem d1_11 : decode prog_31_method_1_code 11 = .ok (.putfield 13, 3) := by decide +kernel
theorem d1_14 : decode prog_31_method_1_code 14 = .ok (.aload_n 0, 1) := by decide +kernel
theorem d1_15 : decode prog_31_method_1_code 15 = .ok (.aload_n 3, 1) := by decide +kernel
theorem d1_16 : decode prog_31_method_1_code 16 = .ok (.putfield 16, 3) := by decide +kernel
theorem d1_19 : decode prog_31_method_1_code 19 = .ok (.return_, 1) := by decide +kernel
theorem pn_1 : plainName "com/example/tideway/tideway/LinearProgram$Columns" = true := by first | (simp [plainName, overriddenIn]; done) | decide +kernel
theorem ef_1 (m : MethodId) (x0 : Addr) (x1 : Addr) (x2 : Addr) (x3 : Addr) : entryFrame m #[(.ref x0), (.ref x1), (.ref x2), (.ref x3)] 4 = mkF m 0 #[.val (.ref x0), .val (.ref x1), .val (.ref x2), .val (.ref x3)] [] := by first | (simp [entryFrame, mkF, argsToLocals, Value.category]; done) | rfl
def Q1 (Z : State) (a0 : Addr) (a1 : Addr) (a2 : Addr) (a3 : Addr) (h0 : Heap) (n0 : Nat) (v : Option Value) (h : Heap) (L : List Loc) : Prop := v = none ∧ Fr n0 L ∧ Keep h0 h [a0] ∧ Exa Z h a0 "com/example/tideway/tideway/LinearProgram$Columns" ∧ Fld Z h a0 "com/example/tideway/tideway/LinearProgram$Columns" "start" "[I" (.ref a1) ∧ Fld Z h a0 "com/example/tideway/tideway/LinearProgram$Columns" "rows" "[I" (.ref a2) ∧ Fld Z h a0 "com/example/tideway/tideway/LinearProgram$Columns" "values" "[D" (.ref a3)
set_option maxRecDepth 65536 in
set_option maxHeartbeats 40000000 in
theorem rm1 (l : Launch) (Z : State) (aZ : Array Value) (hw : ∀ d ∈ tables_1, d.before aZ Z = true) (ws : List Jvm.Cond) (a0 : Addr) (a1 : Addr) (a2 : Addr) (a3 : Addr)  (h0 : Heap) (n0 : Nat) (Z0 : n0 ≤ h0.size) (F_start : Fld Z h0 a0 "com/example/tideway/tideway/LinearProgram$Columns" "start" "[I" .null) (F_rows : Fld Z h0 a0 "com/example/tideway/tideway/LinearProgram$Columns" "rows" "[I" .null) (F_values : Fld Z h0 a0 "com/example/tideway/tideway/LinearProgram$Columns" "values" "[D" .null) (E_o : Exa Z h0 a0 "com/example/tideway/tideway/LinearProgram$Columns") (g_a0 : n0 ≤ a0) :
    MetFree l (⟨"com/example/tideway/tideway/LinearProgram$Columns", "<init>", "([I[I[D)V"⟩ : MethodName) (head1 (Jvm.Cond.code (⟨"com/example/tideway/tideway/LinearProgram$Columns", "<init>", "([I[I[D)V"⟩ : MethodName) prog_31_method_1_code 4 none :: ws) ({ frames := 2, cells := 0, slots := 0, locals := 24 } : Room)) (fun a U => a = #[(.ref a0), (.ref a1), (.ref a2), (.ref a3)] ∧ Z.Warmed39 U.vm ∧ U.heap = h0) (fun _ _ _ _ _ => True) (fun _ U o U' => ∃ v L, o = .returned v ∧ Q1 Z a0 a1 a2 a3 h0 n0 v U'.heap L ∧ FrameEnd U o U' L ({ frames := 2, cells := 0, slots := 0, locals := 24 } : Room).cells ({ frames := 2, cells := 0, slots := 0, locals := 24 } : Room).slots) := by
  refine MetFree.of_bodySF (plainFor_of_name pn_1) hisR ?_
  intro p e s m args below meth c s₁ Bd hml0 hP hK
  obtain ⟨rfl, hZ, hh⟩ := hP
  have hx := Bd.exec
  have hby := Bd.bytes
  have hml : c.maxLocals = 4 := hml0
  have hown : s.vm.findClass "com/example/tideway/tideway/LinearProgram$Columns" = some m.cls := findClass_of_methodNamed Bd.named
  have hnm := (name_of_methodNamed Bd.named Bd.method).1
  have X0 : Stand p l e ({ frames := 2, cells := 0, slots := 0, locals := 24 } : Room) s m #[(.ref a0), (.ref a1), (.ref a2), (.ref a3)] below meth c s₁ [] 0 0 := Stand.of_body Bd
  have e0 : s₁.heap = h0 := by rw [← hh, Bd.state]; rfl
  have N0 := Fr.nil n0
  have pre0 : ∀ t, Steps p.tables e below (s₁.setTop (mkF m 0 #[.val (.ref a0), .val (.ref a1), .val (.ref a2), .val (.ref a3)] [])) t → Steps p.tables e below (s₁.setTop (entryFrame m #[(.ref a0), (.ref a1), (.ref a2), (.ref a3)] 4)) t := fun t k => castTop (ef_1 m a0 a1 a2 a3) k
  have pre13 : ∀ t, Steps p.tables e below (s₁.setTop (mkF m 1 #[.val (.ref a0), .val (.ref a1), .val (.ref a2), .val (.ref a3)] [(.ref a0)])) t → Steps p.tables e below (s₁.setTop (entryFrame m #[(.ref a0), (.ref a1), (.ref a2), (.ref a3)] 4)) t := fun t k => by
    refine pre0 _ ?_
    show Steps p.tables e below (s₁.setTop (mkF m 0 #[.val (.ref a0), .val (.ref a1), .val (.ref a2), .val (.ref a3)] [])) _
    refine XS.aloadN X0.here hx rfl (hb hby d1_0) rfl rfl ?_
    show Steps p.tables e below (s₁.setTop (mkF m 1 #[.val (.ref a0), .val (.ref a1), .val (.ref a2), .val (.ref a3)] [(.ref a0)])) _
    exact k
  obtain ⟨_, _, ⟨T14, L14, k14, n14⟩, -, X14, ⟨Lc14, hQ14, l14, y14, z14⟩, st14⟩ := X0.specialBack hx (y := (⟨"java/lang/Record", "<init>", "()V"⟩ : MethodName)) rfl hown (mvT hZ (hw _ (List.mem_of_getElem? (i := 9) rfl))) (mvT hZ (hw _ (List.mem_of_getElem? (i := 10) rfl))) (mvT hZ (hw _ (List.mem_of_getElem? (i := 13) rfl))) (by decide) (backOf (W := 0) (rm2 l Z aZ hw [] a0  h0 n0 Z0 ) hZ (hw _ (List.mem_of_getElem? (i := 13) rfl)) (hw _ (List.mem_of_getElem? (i := 12) rfl)) (by decide) (by decide)) (g := (mkF m 1 #[.val (.ref a0), .val (.ref a1), .val (.ref a2), .val (.ref a3)] [(.ref a0)])) rfl (by rw [hml]; rfl) (Steps.refl _) (a := a0) (argsL := []) (rest := []) (lenOf pd_1 rfl) rfl (by show 2 * 0 + _ ≤ _; exact Nat.le_of_eq rfl) (hb hby d1_1) (fun _ _ => ⟨rfl, e0, (by decide : 0 + 0 ≤ _), (by decide : 0 + 0 ≤ _)⟩)
  dsimp only [Pt.U, Pt.locs, Pt.cells, Pt.slots] at X14 l14 y14 z14 st14 hQ14
  subst l14 y14 z14
  obtain ⟨rfl, N14q, e14⟩ := hQ14
  have N14 := Fr.app N0 N14q
  have pre14 : ∀ t, Steps p.tables e below (T14.setTop (mkF m 4 #[.val (.ref a0), .val (.ref a1), .val (.ref a2), .val (.ref a3)] [])) t → Steps p.tables e below (s₁.setTop (entryFrame m #[(.ref a0), (.ref a1), (.ref a2), (.ref a3)] 4)) t := fun t k => pre13 _ (st14.trans k)
  have pre15 : ∀ t, Steps p.tables e below (T14.setTop (mkF m 6 #[.val (.ref a0), .val (.ref a1), .val (.ref a2), .val (.ref a3)] [(.ref a1), (.ref a0)])) t → Steps p.tables e below (s₁.setTop (entryFrame m #[(.ref a0), (.ref a1), (.ref a2), (.ref a3)] 4)) t := fun t k => by
    refine pre14 _ ?_
    show Steps p.tables e below (T14.setTop (mkF m 4 #[.val (.ref a0), .val (.ref a1), .val (.ref a2), .val (.ref a3)] [])) _
    refine XS.aloadN X14.here hx rfl (hb hby d1_4) rfl rfl ?_
    show Steps p.tables e below (T14.setTop (mkF m 5 #[.val (.ref a0), .val (.ref a1), .val (.ref a2), .val (.ref a3)] [(.ref a0)])) _
    refine XS.aloadN X14.here hx rfl (hb hby d1_5) rfl rfl ?_
    show Steps p.tables e below (T14.setTop (mkF m 6 #[.val (.ref a0), .val (.ref a1), .val (.ref a2), .val (.ref a3)] [(.ref a1), (.ref a0)])) _
    exact k
  obtain ⟨T16, h16, X16, e16, W16, st16⟩ := putF X14 hx hZ hown (host := "") (Or.inl (hw _ (List.mem_of_getElem? (i := 17) rfl))) Via.refl e14 F_start E_o (Or.inr ⟨(hw _ (List.mem_of_getElem? (i := 18) rfl)), rfl, hnm⟩) (hw _ (List.mem_of_getElem? (i := 3) rfl)) (ty := (.array .int)) (by decide) rfl rfl (g := (mkF m 6 #[.val (.ref a0), .val (.ref a1), .val (.ref a2), .val (.ref a3)] [(.ref a1), (.ref a0)])) rfl rfl (hb hby d1_6)
  have F16_0 := E_o.wr W16
  have F16_1 := F_start.same W16
  have F16_2 := F_rows.other W16 (Or.inr (slot_ne (Or.inr (hw _ (List.mem_of_getElem? (i := 20) rfl))) (Or.inr (hw _ (List.mem_of_getElem? (i := 18) rfl))) (by decide) (t := (.array .int)) (t' := (.array .int)) (by decide) (by decide)))
  have F16_3 := F_values.other W16 (Or.inr (slot_ne (Or.inr (hw _ (List.mem_of_getElem? (i := 22) rfl))) (Or.inr (hw _ (List.mem_of_getElem? (i := 18) rfl))) (by decide) (t := (.array .double)) (t' := (.array .int)) (by decide) (by decide)))
  have Zs16 : n0 ≤ h16.size := Nat.le_trans Z0 (Keep.of_wr W16).1
  have K0 := Keep.refl h0 [a0]
  have K16 := K0.wr W16 (Or.inl (List.mem_of_getElem? (i := 0) rfl))
  have N16 := Fr.snoc X16 N14 g_a0
  have pre16 : ∀ t, Steps p.tables e below (T16.setTop (mkF m 9 #[.val (.ref a0), .val (.ref a1), .val (.ref a2), .val (.ref a3)] [])) t → Steps p.tables e below (s₁.setTop (entryFrame m #[(.ref a0), (.ref a1), (.ref a2), (.ref a3)] 4)) t := fun t k => pre15 _ (st16 t k)
  have pre17 : ∀ t, Steps p.tables e below (T16.setTop (mkF m 11 #[.val (.ref a0), .val (.ref a1), .val (.ref a2), .val (.ref a3)] [(.ref a2), (.ref a0)])) t → Steps p.tables e below (s₁.setTop (entryFrame m #[(.ref a0), (.ref a1), (.ref a2), (.ref a3)] 4)) t := fun t k => by
    refine pre16 _ ?_
    show Steps p.tables e below (T16.setTop (mkF m 9 #[.val (.ref a0), .val (.ref a1), .val (.ref a2), .val (.ref a3)] [])) _
    refine XS.aloadN X16.here hx rfl (hb hby d1_9) rfl rfl ?_
    show Steps p.tables e below (T16.setTop (mkF m 10 #[.val (.ref a0), .val (.ref a1), .val (.ref a2), .val (.ref a3)] [(.ref a0)])) _
    refine XS.aloadN X16.here hx rfl (hb hby d1_10) rfl rfl ?_
    show Steps p.tables e below (T16.setTop (mkF m 11 #[.val (.ref a0), .val (.ref a1), .val (.ref a2), .val (.ref a3)] [(.ref a2), (.ref a0)])) _
    exact k
  obtain ⟨T18, h18, X18, e18, W18, st18⟩ := putF X16 hx hZ hown (host := "") (Or.inl (hw _ (List.mem_of_getElem? (i := 19) rfl))) Via.refl e16 F16_2 F16_0 (Or.inr ⟨(hw _ (List.mem_of_getElem? (i := 20) rfl)), rfl, hnm⟩) (hw _ (List.mem_of_getElem? (i := 3) rfl)) (ty := (.array .int)) (by decide) rfl rfl (g := (mkF m 11 #[.val (.ref a0), .val (.ref a1), .val (.ref a2), .val (.ref a3)] [(.ref a2), (.ref a0)])) rfl rfl (hb hby d1_11)
  have F18_0 := F16_0.wr W18
  have F18_1 := F16_1.other W18 (Or.inr (slot_ne (Or.inr (hw _ (List.mem_of_getElem? (i := 18) rfl))) (Or.inr (hw _ (List.mem_of_getElem? (i := 20) rfl))) (by decide) (t := (.array .int)) (t' := (.array .int)) (by decide) (by decide)))
  have F18_2 := F16_2.same W18
  have F18_3 := F16_3.other W18 (Or.inr (slot_ne (Or.inr (hw _ (List.mem_of_getElem? (i := 22) rfl))) (Or.inr (hw _ (List.mem_of_getElem? (i := 20) rfl))) (by decide) (t := (.array .double)) (t' := (.array .int)) (by decide) (by decide)))
  have Zs18 : n0 ≤ h18.size := Nat.le_trans Zs16 (Keep.of_wr W18).1
  have K18 := K16.wr W18 (Or.inl (List.mem_of_getElem? (i := 0) rfl))
  have N18 := Fr.snoc X18 N16 g_a0
  have pre18 : ∀ t, Steps p.tables e below (T18.setTop (mkF m 14 #[.val (.ref a0), .val (.ref a1), .val (.ref a2), .val (.ref a3)] [])) t → Steps p.tables e below (s₁.setTop (entryFrame m #[(.ref a0), (.ref a1), (.ref a2), (.ref a3)] 4)) t := fun t k => pre17 _ (st18 t k)
  have pre19 : ∀ t, Steps p.tables e below (T18.setTop (mkF m 16 #[.val (.ref a0), .val (.ref a1), .val (.ref a2), .val (.ref a3)] [(.ref a3), (.ref a0)])) t → Steps p.tables e below (s₁.setTop (entryFrame m #[(.ref a0), (.ref a1), (.ref a2), (.ref a3)] 4)) t := fun t k => by
    refine pre18 _ ?_
    show Steps p.tables e below (T18.setTop (mkF m 14 #[.val (.ref a0), .val (.ref a1), .val (.ref a2), .val (.ref a3)] [])) _
    refine XS.aloadN X18.here hx rfl (hb hby d1_14) rfl rfl ?_
    show Steps p.tables e below (T18.setTop (mkF m 15 #[.val (.ref a0), .val (.ref a1), .val (.ref a2), .val (.ref a3)] [(.ref a0)])) _
    refine XS.aloadN X18.here hx rfl (hb hby d1_15) rfl rfl ?_
    show Steps p.tables e below (T18.setTop (mkF m 16 #[.val (.ref a0), .val (.ref a1), .val (.ref a2), .val (.ref a3)] [(.ref a3), (.ref a0)])) _
    exact k
  obtain ⟨T20, h20, X20, e20, W20, st20⟩ := putF X18 hx hZ hown (host := "") (Or.inl (hw _ (List.mem_of_getElem? (i := 21) rfl))) Via.refl e18 F18_3 F18_0 (Or.inr ⟨(hw _ (List.mem_of_getElem? (i := 22) rfl)), rfl, hnm⟩) (hw _ (List.mem_of_getElem? (i := 3) rfl)) (ty := (.array .double)) (by decide) rfl rfl (g := (mkF m 16 #[.val (.ref a0), .val (.ref a1), .val (.ref a2), .val (.ref a3)] [(.ref a3), (.ref a0)])) rfl rfl (hb hby d1_16)
  have F20_0 := F18_0.wr W20
  have F20_1 := F18_1.other W20 (Or.inr (slot_ne (Or.inr (hw _ (List.mem_of_getElem? (i := 18) rfl))) (Or.inr (hw _ (List.mem_of_getElem? (i := 22) rfl))) (by decide) (t := (.array .int)) (t' := (.array .double)) (by decide) (by decide)))
  have F20_2 := F18_2.other W20 (Or.inr (slot_ne (Or.inr (hw _ (List.mem_of_getElem? (i := 20) rfl))) (Or.inr (hw _ (List.mem_of_getElem? (i := 22) rfl))) (by decide) (t := (.array .int)) (t' := (.array .double)) (by decide) (by decide)))
  have F20_3 := F18_3.same W20
  have Zs20 : n0 ≤ h20.size := Nat.le_trans Zs18 (Keep.of_wr W20).1
  have K20 := K18.wr W20 (Or.inl (List.mem_of_getElem? (i := 0) rfl))
  have N20 := Fr.snoc X20 N18 g_a0
  have pre20 : ∀ t, Steps p.tables e below (T20.setTop (mkF m 19 #[.val (.ref a0), .val (.ref a1), .val (.ref a2), .val (.ref a3)] [])) t → Steps p.tables e below (s₁.setTop (entryFrame m #[(.ref a0), (.ref a1), (.ref a2), (.ref a3)] 4)) t := fun t k => pre19 _ (st20 t k)
  obtain ⟨fs, hr, hrun, hended, hW, hsame⟩ := X20.leave (v := none) (fun _ => rfl)
  refine ⟨_, _, pre20 _ ?_, hrun, hended, _, _, rfl, ?_, ⟨_, rfl⟩, hW, hsame.mono (by decide) (by decide)⟩
  · show Steps p.tables e below (T20.setTop (mkF m 19 #[.val (.ref a0), .val (.ref a1), .val (.ref a2), .val (.ref a3)] [])) _
    exact X20.returnOut hx Bd.returns (hb hby d1_19) hr
  · show Q1 Z a0 a1 a2 a3 h0 n0 _ T20.heap _
    rw [e20]
    exact ⟨rfl, N20, K20, F20_0, F20_1, F20_2, F20_3⟩
theorem d4_0 : decode prog_31_method_2_code 0 = .ok (.aload_n 0, 1) := by decide +kernel
theorem d4_1 : decode prog_31_method_2_code 1 = .ok (.getfield 7, 3) := by decide +kernel
theorem d4_4 : decode prog_31_method_2_code 4 = .ok (.iload_n 1, 1) := by decide +kernel
theorem d4_5 : decode prog_31_method_2_code 5 = .ok (.iconst 1, 1) := by decide +kernel
theorem d4_6 : decode prog_31_method_2_code 6 = .ok (.iadd, 1) := by decide +kernel
theorem d4_7 : decode prog_31_method_2_code 7 = .ok (.iaload, 1) := by decide +kernel
theorem d4_8 : decode prog_31_method_2_code 8 = .ok (.aload_n 0, 1) := by decide +kernel
theorem d4_9 : decode prog_31_method_2_code 9 = .ok (.getfield 7, 3) := by decide +kernel
theorem d4_12 : decode prog_31_method_2_code 12 = .ok (.iload_n 1, 1) := by decide +kernel
theorem d4_13 : decode prog_31_method_2_code 13 = .ok (.iaload, 1) := by decide +kernel
theorem d4_14 : decode prog_31_method_2_code 14 = .ok (.isub, 1) := by decide +kernel
theorem d4_15 : decode prog_31_method_2_code 15 = .ok (.ireturn, 1) := by decide +kernel
theorem ef_4 (m : MethodId) (x0 : Addr) (x1 : Int32) : entryFrame m #[(.ref x0), (.int x1)] 2 = mkF m 0 #[.val (.ref x0), .val (.int x1)] [] := by first | (simp [entryFrame, mkF, argsToLocals, Value.category]; done) | rfl
def f4_0 (v0 : Int32) (v1 : Int32) : Int32 := (v1 - v0)
def Q4_0 (v0 : Int32) (v1 : Int32) (h0 : Heap) (n0 : Nat) (v : Option Value) (h : Heap) (L : List Loc) : Prop := v = some (.int (f4_0 v0 v1)) ∧ Fr n0 L ∧ h = h0
set_option maxRecDepth 65536 in
set_option maxHeartbeats 40000000 in
theorem rm4_0 (l : Launch) (Z : State) (aZ : Array Value) (hw : ∀ d ∈ tables_1, d.before aZ Z = true) (ws : List Jvm.Cond) (a0 : Addr) (wa : Addr) (kw : ClassId) (v0 v1 v2 v3 : Int32) (h0 : Heap) (n0 : Nat) (Z0 : n0 ≤ h0.size) (F_start : Fld Z h0 a0 "com/example/tideway/tideway/LinearProgram$Columns" "start" "[I" (.ref wa)) (V_wa : Arv Z h0 wa kw .int (4 : Int32) [(.int v0), (.int v1), (.int v2), (.int v3)] (.int (0 : Int32))) :
    MetFree l (⟨"com/example/tideway/tideway/LinearProgram$Columns", "entries", "(I)I"⟩ : MethodName) (head1 (Jvm.Cond.code (⟨"com/example/tideway/tideway/LinearProgram$Columns", "entries", "(I)I"⟩ : MethodName) prog_31_method_2_code 2 (some .int) :: ws) ({ frames := 0, cells := 0, slots := 0, locals := 0 } : Room)) (fun a U => a = #[(.ref a0), (.int (0 : Int32))] ∧ Z.Warmed39 U.vm ∧ U.heap = h0) (fun _ _ _ _ _ => True) (fun _ U o U' => ∃ v L, o = .returned v ∧ Q4_0 v0 v1 h0 n0 v U'.heap L ∧ FrameEnd U o U' L ({ frames := 0, cells := 0, slots := 0, locals := 0 } : Room).cells ({ frames := 0, cells := 0, slots := 0, locals := 0 } : Room).slots) := by
  refine MetFree.of_bodySF (plainFor_of_name pn_1) hisR ?_
  intro p e s m args below meth c s₁ Bd hml0 hP hK
  obtain ⟨rfl, hZ, hh⟩ := hP
  have hx := Bd.exec
  have hby := Bd.bytes
  have hml : c.maxLocals = 2 := hml0
  have hown : s.vm.findClass "com/example/tideway/tideway/LinearProgram$Columns" = some m.cls := findClass_of_methodNamed Bd.named
  have hnm := (name_of_methodNamed Bd.named Bd.method).1
  have X0 : Stand p l e ({ frames := 0, cells := 0, slots := 0, locals := 0 } : Room) s m #[(.ref a0), (.int (0 : Int32))] below meth c s₁ [] 0 0 := Stand.of_body Bd
  have e0 : s₁.heap = h0 := by rw [← hh, Bd.state]; rfl
  have N0 := Fr.nil n0
  have pre0 : ∀ t, Steps p.tables e below (s₁.setTop (mkF m 0 #[.val (.ref a0), .val (.int (0 : Int32))] [])) t → Steps p.tables e below (s₁.setTop (entryFrame m #[(.ref a0), (.int (0 : Int32))] 2)) t := fun t k => castTop (ef_4 m a0 (0 : Int32)) k
  have pre33 : ∀ t, Steps p.tables e below (s₁.setTop (mkF m 1 #[.val (.ref a0), .val (.int (0 : Int32))] [(.ref a0)])) t → Steps p.tables e below (s₁.setTop (entryFrame m #[(.ref a0), (.int (0 : Int32))] 2)) t := fun t k => by
    refine pre0 _ ?_
    show Steps p.tables e below (s₁.setTop (mkF m 0 #[.val (.ref a0), .val (.int (0 : Int32))] [])) _
    refine XS.aloadN X0.here hx rfl (hb hby d4_0) rfl rfl ?_
    show Steps p.tables e below (s₁.setTop (mkF m 1 #[.val (.ref a0), .val (.int (0 : Int32))] [(.ref a0)])) _
    exact k
  obtain ⟨T34, X34, e34, st34⟩ := getF X0 hx hZ hown (host := "") (Or.inl (hw _ (List.mem_of_getElem? (i := 17) rfl))) Via.refl e0 F_start (g := (mkF m 1 #[.val (.ref a0), .val (.int (0 : Int32))] [(.ref a0)])) rfl rfl (hb hby d4_1)
  have pre34 : ∀ t, Steps p.tables e below (T34.setTop (mkF m 4 #[.val (.ref a0), .val (.int (0 : Int32))] [(.ref wa)])) t → Steps p.tables e below (s₁.setTop (entryFrame m #[(.ref a0), (.int (0 : Int32))] 2)) t := fun t k => pre33 _ (st34 t k)
  have pre35 : ∀ t, Steps p.tables e below (T34.setTop (mkF m 7 #[.val (.ref a0), .val (.int (0 : Int32))] [(.int ((0 : Int32) + (1 : Int32))), (.ref wa)])) t → Steps p.tables e below (s₁.setTop (entryFrame m #[(.ref a0), (.int (0 : Int32))] 2)) t := fun t k => by
    refine pre34 _ ?_
    show Steps p.tables e below (T34.setTop (mkF m 4 #[.val (.ref a0), .val (.int (0 : Int32))] [(.ref wa)])) _
    refine XS.iloadN X34.here hx rfl (hb hby d4_4) rfl ?_
    show Steps p.tables e below (T34.setTop (mkF m 5 #[.val (.ref a0), .val (.int (0 : Int32))] [(.int (0 : Int32)), (.ref wa)])) _
    refine XS.iconst X34.here hx rfl (hb hby d4_5) ?_
    show Steps p.tables e below (T34.setTop (mkF m 6 #[.val (.ref a0), .val (.int (0 : Int32))] [(.int (1 : Int32)), (.int (0 : Int32)), (.ref wa)])) _
    refine XS.iadd X34.here hx rfl (hb hby d4_6) rfl ?_
    show Steps p.tables e below (T34.setTop (mkF m 7 #[.val (.ref a0), .val (.int (0 : Int32))] [(.int ((0 : Int32) + (1 : Int32))), (.ref wa)])) _
    exact k
  have Vo_wa_36 := V_wa
  obtain ⟨cl_wa_36, Ar_wa_36, q_wa_36, S_wa_36, M_wa_36, H_wa_36, G_wa_36⟩ := Vo_wa_36
  have hin36 : ¬ (((0 : Int32) + (1 : Int32)) < 0 ∨ cl_wa_36.slots.size ≤ (((0 : Int32) + (1 : Int32))).toNatClampNeg) := inb_of S_wa_36 ⟨by decide, by decide⟩
  have hat36 : cl_wa_36.slots[(((0 : Int32) + (1 : Int32))).toNatClampNeg]? = some (.int v1) := H_wa_36.at hin36 rfl
  have pre37 : ∀ t, Steps p.tables e below (T34.setTop (mkF m 8 #[.val (.ref a0), .val (.int (0 : Int32))] [(.int v1)])) t → Steps p.tables e below (s₁.setTop (entryFrame m #[(.ref a0), (.int (0 : Int32))] 2)) t := fun t k => pre35 _ (X34.iaload hx (j := ((0 : Int32) + (1 : Int32))) (v := (.int v1)) (by rw [e34]; exact Ar_wa_36.1) (State.isArrayOf_alike hZ.alike Ar_wa_36.2.1) Ar_wa_36.2.2 hin36 hat36 (g := (mkF m 7 #[.val (.ref a0), .val (.int (0 : Int32))] [(.int ((0 : Int32) + (1 : Int32))), (.ref wa)])) rfl rfl (hb hby d4_7) t k)
  have pre38 : ∀ t, Steps p.tables e below (T34.setTop (mkF m 9 #[.val (.ref a0), .val (.int (0 : Int32))] [(.ref a0), (.int v1)])) t → Steps p.tables e below (s₁.setTop (entryFrame m #[(.ref a0), (.int (0 : Int32))] 2)) t := fun t k => by
    refine pre37 _ ?_
    show Steps p.tables e below (T34.setTop (mkF m 8 #[.val (.ref a0), .val (.int (0 : Int32))] [(.int v1)])) _
    refine XS.aloadN X34.here hx rfl (hb hby d4_8) rfl rfl ?_
    show Steps p.tables e below (T34.setTop (mkF m 9 #[.val (.ref a0), .val (.int (0 : Int32))] [(.ref a0), (.int v1)])) _
    exact k
  obtain ⟨T39, X39, e39, st39⟩ := getF X34 hx hZ hown (host := "") (Or.inl (hw _ (List.mem_of_getElem? (i := 17) rfl))) Via.refl e34 F_start (g := (mkF m 9 #[.val (.ref a0), .val (.int (0 : Int32))] [(.ref a0), (.int v1)])) rfl rfl (hb hby d4_9)
  have pre39 : ∀ t, Steps p.tables e below (T39.setTop (mkF m 12 #[.val (.ref a0), .val (.int (0 : Int32))] [(.ref wa), (.int v1)])) t → Steps p.tables e below (s₁.setTop (entryFrame m #[(.ref a0), (.int (0 : Int32))] 2)) t := fun t k => pre38 _ (st39 t k)
  have pre40 : ∀ t, Steps p.tables e below (T39.setTop (mkF m 13 #[.val (.ref a0), .val (.int (0 : Int32))] [(.int (0 : Int32)), (.ref wa), (.int v1)])) t → Steps p.tables e below (s₁.setTop (entryFrame m #[(.ref a0), (.int (0 : Int32))] 2)) t := fun t k => by
    refine pre39 _ ?_
    show Steps p.tables e below (T39.setTop (mkF m 12 #[.val (.ref a0), .val (.int (0 : Int32))] [(.ref wa), (.int v1)])) _
    refine XS.iloadN X39.here hx rfl (hb hby d4_12) rfl ?_
    show Steps p.tables e below (T39.setTop (mkF m 13 #[.val (.ref a0), .val (.int (0 : Int32))] [(.int (0 : Int32)), (.ref wa), (.int v1)])) _
    exact k
  have Vo_wa_41 := V_wa
  obtain ⟨cl_wa_41, Ar_wa_41, q_wa_41, S_wa_41, M_wa_41, H_wa_41, G_wa_41⟩ := Vo_wa_41
  have hin41 : ¬ ((0 : Int32) < 0 ∨ cl_wa_41.slots.size ≤ ((0 : Int32)).toNatClampNeg) := inb_of S_wa_41 ⟨by decide, by decide⟩
  have hat41 : cl_wa_41.slots[((0 : Int32)).toNatClampNeg]? = some (.int v0) := H_wa_41.at hin41 rfl
  have pre42 : ∀ t, Steps p.tables e below (T39.setTop (mkF m 14 #[.val (.ref a0), .val (.int (0 : Int32))] [(.int v0), (.int v1)])) t → Steps p.tables e below (s₁.setTop (entryFrame m #[(.ref a0), (.int (0 : Int32))] 2)) t := fun t k => pre40 _ (X39.iaload hx (j := (0 : Int32)) (v := (.int v0)) (by rw [e39]; exact Ar_wa_41.1) (State.isArrayOf_alike hZ.alike Ar_wa_41.2.1) Ar_wa_41.2.2 hin41 hat41 (g := (mkF m 13 #[.val (.ref a0), .val (.int (0 : Int32))] [(.int (0 : Int32)), (.ref wa), (.int v1)])) rfl rfl (hb hby d4_13) t k)
  have pre43 : ∀ t, Steps p.tables e below (T39.setTop (mkF m 15 #[.val (.ref a0), .val (.int (0 : Int32))] [(.int (v1 - v0))])) t → Steps p.tables e below (s₁.setTop (entryFrame m #[(.ref a0), (.int (0 : Int32))] 2)) t := fun t k => by
    refine pre42 _ ?_
    show Steps p.tables e below (T39.setTop (mkF m 14 #[.val (.ref a0), .val (.int (0 : Int32))] [(.int v0), (.int v1)])) _
    refine XS.isub X39.here hx rfl (hb hby d4_14) rfl ?_
    show Steps p.tables e below (T39.setTop (mkF m 15 #[.val (.ref a0), .val (.int (0 : Int32))] [(.int (v1 - v0))])) _
    exact k
  obtain ⟨fs, hr, hrun, hended, hW, hsame⟩ := X39.leave (v := some (.int (v1 - v0))) (fun h => by rw [Bd.returns] at h; cases h)
  refine ⟨_, _, pre43 _ ?_, hrun, hended, _, _, rfl, ?_, ⟨_, rfl⟩, hW, hsame.mono (by decide) (by decide)⟩
  · show Steps p.tables e below (T39.setTop (mkF m 15 #[.val (.ref a0), .val (.int (0 : Int32))] [(.int (v1 - v0))])) _
    exact retI X39 hx Bd.returns (hb hby d4_15) hr
  · have hv : f4_0 v0 v1 = (v1 - v0) := by unfold f4_0; rfl
    show Q4_0 v0 v1 h0 n0 _ T39.heap _
    rw [e39]
    exact ⟨by rw [hv], N0, rfl⟩
def f4_1 (v1 : Int32) (v2 : Int32) : Int32 := (v2 - v1)
def Q4_1 (v1 : Int32) (v2 : Int32) (h0 : Heap) (n0 : Nat) (v : Option Value) (h : Heap) (L : List Loc) : Prop := v = some (.int (f4_1 v1 v2)) ∧ Fr n0 L ∧ h = h0
set_option maxRecDepth 65536 in
set_option maxHeartbeats 40000000 in
theorem rm4_1 (l : Launch) (Z : State) (aZ : Array Value) (hw : ∀ d ∈ tables_1, d.before aZ Z = true) (ws : List Jvm.Cond) (a0 : Addr) (wa : Addr) (kw : ClassId) (v0 v1 v2 v3 : Int32) (h0 : Heap) (n0 : Nat) (Z0 : n0 ≤ h0.size) (F_start : Fld Z h0 a0 "com/example/tideway/tideway/LinearProgram$Columns" "start" "[I" (.ref wa)) (V_wa : Arv Z h0 wa kw .int (4 : Int32) [(.int v0), (.int v1), (.int v2), (.int v3)] (.int (0 : Int32))) :
    MetFree l (⟨"com/example/tideway/tideway/LinearProgram$Columns", "entries", "(I)I"⟩ : MethodName) (head1 (Jvm.Cond.code (⟨"com/example/tideway/tideway/LinearProgram$Columns", "entries", "(I)I"⟩ : MethodName) prog_31_method_2_code 2 (some .int) :: ws) ({ frames := 0, cells := 0, slots := 0, locals := 0 } : Room)) (fun a U => a = #[(.ref a0), (.int (1 : Int32))] ∧ Z.Warmed39 U.vm ∧ U.heap = h0) (fun _ _ _ _ _ => True) (fun _ U o U' => ∃ v L, o = .returned v ∧ Q4_1 v1 v2 h0 n0 v U'.heap L ∧ FrameEnd U o U' L ({ frames := 0, cells := 0, slots := 0, locals := 0 } : Room).cells ({ frames := 0, cells := 0, slots := 0, locals := 0 } : Room).slots) := by
  refine MetFree.of_bodySF (plainFor_of_name pn_1) hisR ?_
  intro p e s m args below meth c s₁ Bd hml0 hP hK
  obtain ⟨rfl, hZ, hh⟩ := hP
  have hx := Bd.exec
  have hby := Bd.bytes
  have hml : c.maxLocals = 2 := hml0
  have hown : s.vm.findClass "com/example/tideway/tideway/LinearProgram$Columns" = some m.cls := findClass_of_methodNamed Bd.named
  have hnm := (name_of_methodNamed Bd.named Bd.method).1
  have X0 : Stand p l e ({ frames := 0, cells := 0, slots := 0, locals := 0 } : Room) s m #[(.ref a0), (.int (1 : Int32))] below meth c s₁ [] 0 0 := Stand.of_body Bd
  have e0 : s₁.heap = h0 := by rw [← hh, Bd.state]; rfl
  have N0 := Fr.nil n0
  have pre0 : ∀ t, Steps p.tables e below (s₁.setTop (mkF m 0 #[.val (.ref a0), .val (.int (1 : Int32))] [])) t → Steps p.tables e below (s₁.setTop (entryFrame m #[(.ref a0), (.int (1 : Int32))] 2)) t := fun t k => castTop (ef_4 m a0 (1 : Int32)) k
  have pre55 : ∀ t, Steps p.tables e below (s₁.setTop (mkF m 1 #[.val (.ref a0), .val (.int (1 : Int32))] [(.ref a0)])) t → Steps p.tables e below (s₁.setTop (entryFrame m #[(.ref a0), (.int (1 : Int32))] 2)) t := fun t k => by
    refine pre0 _ ?_
    show Steps p.tables e below (s₁.setTop (mkF m 0 #[.val (.ref a0), .val (.int (1 : Int32))] [])) _
    refine XS.aloadN X0.here hx rfl (hb hby d4_0) rfl rfl ?_
    show Steps p.tables e below (s₁.setTop (mkF m 1 #[.val (.ref a0), .val (.int (1 : Int32))] [(.ref a0)])) _
    exact k
  obtain ⟨T56, X56, e56, st56⟩ := getF X0 hx hZ hown (host := "") (Or.inl (hw _ (List.mem_of_getElem? (i := 17) rfl))) Via.refl e0 F_start (g := (mkF m 1 #[.val (.ref a0), .val (.int (1 : Int32))] [(.ref a0)])) rfl rfl (hb hby d4_1)
  have pre56 : ∀ t, Steps p.tables e below (T56.setTop (mkF m 4 #[.val (.ref a0), .val (.int (1 : Int32))] [(.ref wa)])) t → Steps p.tables e below (s₁.setTop (entryFrame m #[(.ref a0), (.int (1 : Int32))] 2)) t := fun t k => pre55 _ (st56 t k)
  have pre57 : ∀ t, Steps p.tables e below (T56.setTop (mkF m 7 #[.val (.ref a0), .val (.int (1 : Int32))] [(.int ((1 : Int32) + (1 : Int32))), (.ref wa)])) t → Steps p.tables e below (s₁.setTop (entryFrame m #[(.ref a0), (.int (1 : Int32))] 2)) t := fun t k => by
    refine pre56 _ ?_
    show Steps p.tables e below (T56.setTop (mkF m 4 #[.val (.ref a0), .val (.int (1 : Int32))] [(.ref wa)])) _
    refine XS.iloadN X56.here hx rfl (hb hby d4_4) rfl ?_
    show Steps p.tables e below (T56.setTop (mkF m 5 #[.val (.ref a0), .val (.int (1 : Int32))] [(.int (1 : Int32)), (.ref wa)])) _
    refine XS.iconst X56.here hx rfl (hb hby d4_5) ?_
    show Steps p.tables e below (T56.setTop (mkF m 6 #[.val (.ref a0), .val (.int (1 : Int32))] [(.int (1 : Int32)), (.int (1 : Int32)), (.ref wa)])) _
    refine XS.iadd X56.here hx rfl (hb hby d4_6) rfl ?_
    show Steps p.tables e below (T56.setTop (mkF m 7 #[.val (.ref a0), .val (.int (1 : Int32))] [(.int ((1 : Int32) + (1 : Int32))), (.ref wa)])) _
    exact k
  have Vo_wa_58 := V_wa
  obtain ⟨cl_wa_58, Ar_wa_58, q_wa_58, S_wa_58, M_wa_58, H_wa_58, G_wa_58⟩ := Vo_wa_58
  have hin58 : ¬ (((1 : Int32) + (1 : Int32)) < 0 ∨ cl_wa_58.slots.size ≤ (((1 : Int32) + (1 : Int32))).toNatClampNeg) := inb_of S_wa_58 ⟨by decide, by decide⟩
  have hat58 : cl_wa_58.slots[(((1 : Int32) + (1 : Int32))).toNatClampNeg]? = some (.int v2) := H_wa_58.at hin58 rfl
  have pre59 : ∀ t, Steps p.tables e below (T56.setTop (mkF m 8 #[.val (.ref a0), .val (.int (1 : Int32))] [(.int v2)])) t → Steps p.tables e below (s₁.setTop (entryFrame m #[(.ref a0), (.int (1 : Int32))] 2)) t := fun t k => pre57 _ (X56.iaload hx (j := ((1 : Int32) + (1 : Int32))) (v := (.int v2)) (by rw [e56]; exact Ar_wa_58.1) (State.isArrayOf_alike hZ.alike Ar_wa_58.2.1) Ar_wa_58.2.2 hin58 hat58 (g := (mkF m 7 #[.val (.ref a0), .val (.int (1 : Int32))] [(.int ((1 : Int32) + (1 : Int32))), (.ref wa)])) rfl rfl (hb hby d4_7) t k)
  have pre60 : ∀ t, Steps p.tables e below (T56.setTop (mkF m 9 #[.val (.ref a0), .val (.int (1 : Int32))] [(.ref a0), (.int v2)])) t → Steps p.tables e below (s₁.setTop (entryFrame m #[(.ref a0), (.int (1 : Int32))] 2)) t := fun t k => by
    refine pre59 _ ?_
    show Steps p.tables e below (T56.setTop (mkF m 8 #[.val (.ref a0), .val (.int (1 : Int32))] [(.int v2)])) _
    refine XS.aloadN X56.here hx rfl (hb hby d4_8) rfl rfl ?_
    show Steps p.tables e below (T56.setTop (mkF m 9 #[.val (.ref a0), .val (.int (1 : Int32))] [(.ref a0), (.int v2)])) _
    exact k
  obtain ⟨T61, X61, e61, st61⟩ := getF X56 hx hZ hown (host := "") (Or.inl (hw _ (List.mem_of_getElem? (i := 17) rfl))) Via.refl e56 F_start (g := (mkF m 9 #[.val (.ref a0), .val (.int (1 : Int32))] [(.ref a0), (.int v2)])) rfl rfl (hb hby d4_9)
  have pre61 : ∀ t, Steps p.tables e below (T61.setTop (mkF m 12 #[.val (.ref a0), .val (.int (1 : Int32))] [(.ref wa), (.int v2)])) t → Steps p.tables e below (s₁.setTop (entryFrame m #[(.ref a0), (.int (1 : Int32))] 2)) t := fun t k => pre60 _ (st61 t k)
  have pre62 : ∀ t, Steps p.tables e below (T61.setTop (mkF m 13 #[.val (.ref a0), .val (.int (1 : Int32))] [(.int (1 : Int32)), (.ref wa), (.int v2)])) t → Steps p.tables e below (s₁.setTop (entryFrame m #[(.ref a0), (.int (1 : Int32))] 2)) t := fun t k => by
    refine pre61 _ ?_
    show Steps p.tables e below (T61.setTop (mkF m 12 #[.val (.ref a0), .val (.int (1 : Int32))] [(.ref wa), (.int v2)])) _
    refine XS.iloadN X61.here hx rfl (hb hby d4_12) rfl ?_
    show Steps p.tables e below (T61.setTop (mkF m 13 #[.val (.ref a0), .val (.int (1 : Int32))] [(.int (1 : Int32)), (.ref wa), (.int v2)])) _
    exact k
  have Vo_wa_63 := V_wa
  obtain ⟨cl_wa_63, Ar_wa_63, q_wa_63, S_wa_63, M_wa_63, H_wa_63, G_wa_63⟩ := Vo_wa_63
  have hin63 : ¬ ((1 : Int32) < 0 ∨ cl_wa_63.slots.size ≤ ((1 : Int32)).toNatClampNeg) := inb_of S_wa_63 ⟨by decide, by decide⟩
  have hat63 : cl_wa_63.slots[((1 : Int32)).toNatClampNeg]? = some (.int v1) := H_wa_63.at hin63 rfl
  have pre64 : ∀ t, Steps p.tables e below (T61.setTop (mkF m 14 #[.val (.ref a0), .val (.int (1 : Int32))] [(.int v1), (.int v2)])) t → Steps p.tables e below (s₁.setTop (entryFrame m #[(.ref a0), (.int (1 : Int32))] 2)) t := fun t k => pre62 _ (X61.iaload hx (j := (1 : Int32)) (v := (.int v1)) (by rw [e61]; exact Ar_wa_63.1) (State.isArrayOf_alike hZ.alike Ar_wa_63.2.1) Ar_wa_63.2.2 hin63 hat63 (g := (mkF m 13 #[.val (.ref a0), .val (.int (1 : Int32))] [(.int (1 : Int32)), (.ref wa), (.int v2)])) rfl rfl (hb hby d4_13) t k)
  have pre65 : ∀ t, Steps p.tables e below (T61.setTop (mkF m 15 #[.val (.ref a0), .val (.int (1 : Int32))] [(.int (v2 - v1))])) t → Steps p.tables e below (s₁.setTop (entryFrame m #[(.ref a0), (.int (1 : Int32))] 2)) t := fun t k => by
    refine pre64 _ ?_
    show Steps p.tables e below (T61.setTop (mkF m 14 #[.val (.ref a0), .val (.int (1 : Int32))] [(.int v1), (.int v2)])) _
    refine XS.isub X61.here hx rfl (hb hby d4_14) rfl ?_
    show Steps p.tables e below (T61.setTop (mkF m 15 #[.val (.ref a0), .val (.int (1 : Int32))] [(.int (v2 - v1))])) _
    exact k
  obtain ⟨fs, hr, hrun, hended, hW, hsame⟩ := X61.leave (v := some (.int (v2 - v1))) (fun h => by rw [Bd.returns] at h; cases h)
  refine ⟨_, _, pre65 _ ?_, hrun, hended, _, _, rfl, ?_, ⟨_, rfl⟩, hW, hsame.mono (by decide) (by decide)⟩
  · show Steps p.tables e below (T61.setTop (mkF m 15 #[.val (.ref a0), .val (.int (1 : Int32))] [(.int (v2 - v1))])) _
    exact retI X61 hx Bd.returns (hb hby d4_15) hr
  · have hv : f4_1 v1 v2 = (v2 - v1) := by unfold f4_1; rfl
    show Q4_1 v1 v2 h0 n0 _ T61.heap _
    rw [e61]
    exact ⟨by rw [hv], N0, rfl⟩
def f4_2 (v2 : Int32) (v3 : Int32) : Int32 := (v3 - v2)
def Q4_2 (v2 : Int32) (v3 : Int32) (h0 : Heap) (n0 : Nat) (v : Option Value) (h : Heap) (L : List Loc) : Prop := v = some (.int (f4_2 v2 v3)) ∧ Fr n0 L ∧ h = h0
set_option maxRecDepth 65536 in
set_option maxHeartbeats 40000000 in
theorem rm4_2 (l : Launch) (Z : State) (aZ : Array Value) (hw : ∀ d ∈ tables_1, d.before aZ Z = true) (ws : List Jvm.Cond) (a0 : Addr) (wa : Addr) (kw : ClassId) (v0 v1 v2 v3 : Int32) (h0 : Heap) (n0 : Nat) (Z0 : n0 ≤ h0.size) (F_start : Fld Z h0 a0 "com/example/tideway/tideway/LinearProgram$Columns" "start" "[I" (.ref wa)) (V_wa : Arv Z h0 wa kw .int (4 : Int32) [(.int v0), (.int v1), (.int v2), (.int v3)] (.int (0 : Int32))) :
    MetFree l (⟨"com/example/tideway/tideway/LinearProgram$Columns", "entries", "(I)I"⟩ : MethodName) (head1 (Jvm.Cond.code (⟨"com/example/tideway/tideway/LinearProgram$Columns", "entries", "(I)I"⟩ : MethodName) prog_31_method_2_code 2 (some .int) :: ws) ({ frames := 0, cells := 0, slots := 0, locals := 0 } : Room)) (fun a U => a = #[(.ref a0), (.int (2 : Int32))] ∧ Z.Warmed39 U.vm ∧ U.heap = h0) (fun _ _ _ _ _ => True) (fun _ U o U' => ∃ v L, o = .returned v ∧ Q4_2 v2 v3 h0 n0 v U'.heap L ∧ FrameEnd U o U' L ({ frames := 0, cells := 0, slots := 0, locals := 0 } : Room).cells ({ frames := 0, cells := 0, slots := 0, locals := 0 } : Room).slots) := by
  refine MetFree.of_bodySF (plainFor_of_name pn_1) hisR ?_
  intro p e s m args below meth c s₁ Bd hml0 hP hK
  obtain ⟨rfl, hZ, hh⟩ := hP
  have hx := Bd.exec
  have hby := Bd.bytes
  have hml : c.maxLocals = 2 := hml0
  have hown : s.vm.findClass "com/example/tideway/tideway/LinearProgram$Columns" = some m.cls := findClass_of_methodNamed Bd.named
  have hnm := (name_of_methodNamed Bd.named Bd.method).1
  have X0 : Stand p l e ({ frames := 0, cells := 0, slots := 0, locals := 0 } : Room) s m #[(.ref a0), (.int (2 : Int32))] below meth c s₁ [] 0 0 := Stand.of_body Bd
  have e0 : s₁.heap = h0 := by rw [← hh, Bd.state]; rfl
  have N0 := Fr.nil n0
  have pre0 : ∀ t, Steps p.tables e below (s₁.setTop (mkF m 0 #[.val (.ref a0), .val (.int (2 : Int32))] [])) t → Steps p.tables e below (s₁.setTop (entryFrame m #[(.ref a0), (.int (2 : Int32))] 2)) t := fun t k => castTop (ef_4 m a0 (2 : Int32)) k
  have pre77 : ∀ t, Steps p.tables e below (s₁.setTop (mkF m 1 #[.val (.ref a0), .val (.int (2 : Int32))] [(.ref a0)])) t → Steps p.tables e below (s₁.setTop (entryFrame m #[(.ref a0), (.int (2 : Int32))] 2)) t := fun t k => by
    refine pre0 _ ?_
    show Steps p.tables e below (s₁.setTop (mkF m 0 #[.val (.ref a0), .val (.int (2 : Int32))] [])) _
    refine XS.aloadN X0.here hx rfl (hb hby d4_0) rfl rfl ?_
    show Steps p.tables e below (s₁.setTop (mkF m 1 #[.val (.ref a0), .val (.int (2 : Int32))] [(.ref a0)])) _
    exact k
  obtain ⟨T78, X78, e78, st78⟩ := getF X0 hx hZ hown (host := "") (Or.inl (hw _ (List.mem_of_getElem? (i := 17) rfl))) Via.refl e0 F_start (g := (mkF m 1 #[.val (.ref a0), .val (.int (2 : Int32))] [(.ref a0)])) rfl rfl (hb hby d4_1)
  have pre78 : ∀ t, Steps p.tables e below (T78.setTop (mkF m 4 #[.val (.ref a0), .val (.int (2 : Int32))] [(.ref wa)])) t → Steps p.tables e below (s₁.setTop (entryFrame m #[(.ref a0), (.int (2 : Int32))] 2)) t := fun t k => pre77 _ (st78 t k)
  have pre79 : ∀ t, Steps p.tables e below (T78.setTop (mkF m 7 #[.val (.ref a0), .val (.int (2 : Int32))] [(.int ((2 : Int32) + (1 : Int32))), (.ref wa)])) t → Steps p.tables e below (s₁.setTop (entryFrame m #[(.ref a0), (.int (2 : Int32))] 2)) t := fun t k => by
    refine pre78 _ ?_
    show Steps p.tables e below (T78.setTop (mkF m 4 #[.val (.ref a0), .val (.int (2 : Int32))] [(.ref wa)])) _
    refine XS.iloadN X78.here hx rfl (hb hby d4_4) rfl ?_
    show Steps p.tables e below (T78.setTop (mkF m 5 #[.val (.ref a0), .val (.int (2 : Int32))] [(.int (2 : Int32)), (.ref wa)])) _
    refine XS.iconst X78.here hx rfl (hb hby d4_5) ?_
    show Steps p.tables e below (T78.setTop (mkF m 6 #[.val (.ref a0), .val (.int (2 : Int32))] [(.int (1 : Int32)), (.int (2 : Int32)), (.ref wa)])) _
    refine XS.iadd X78.here hx rfl (hb hby d4_6) rfl ?_
    show Steps p.tables e below (T78.setTop (mkF m 7 #[.val (.ref a0), .val (.int (2 : Int32))] [(.int ((2 : Int32) + (1 : Int32))), (.ref wa)])) _
    exact k
  have Vo_wa_80 := V_wa
  obtain ⟨cl_wa_80, Ar_wa_80, q_wa_80, S_wa_80, M_wa_80, H_wa_80, G_wa_80⟩ := Vo_wa_80
  have hin80 : ¬ (((2 : Int32) + (1 : Int32)) < 0 ∨ cl_wa_80.slots.size ≤ (((2 : Int32) + (1 : Int32))).toNatClampNeg) := inb_of S_wa_80 ⟨by decide, by decide⟩
  have hat80 : cl_wa_80.slots[(((2 : Int32) + (1 : Int32))).toNatClampNeg]? = some (.int v3) := H_wa_80.at hin80 rfl
  have pre81 : ∀ t, Steps p.tables e below (T78.setTop (mkF m 8 #[.val (.ref a0), .val (.int (2 : Int32))] [(.int v3)])) t → Steps p.tables e below (s₁.setTop (entryFrame m #[(.ref a0), (.int (2 : Int32))] 2)) t := fun t k => pre79 _ (X78.iaload hx (j := ((2 : Int32) + (1 : Int32))) (v := (.int v3)) (by rw [e78]; exact Ar_wa_80.1) (State.isArrayOf_alike hZ.alike Ar_wa_80.2.1) Ar_wa_80.2.2 hin80 hat80 (g := (mkF m 7 #[.val (.ref a0), .val (.int (2 : Int32))] [(.int ((2 : Int32) + (1 : Int32))), (.ref wa)])) rfl rfl (hb hby d4_7) t k)
  have pre82 : ∀ t, Steps p.tables e below (T78.setTop (mkF m 9 #[.val (.ref a0), .val (.int (2 : Int32))] [(.ref a0), (.int v3)])) t → Steps p.tables e below (s₁.setTop (entryFrame m #[(.ref a0), (.int (2 : Int32))] 2)) t := fun t k => by
    refine pre81 _ ?_
    show Steps p.tables e below (T78.setTop (mkF m 8 #[.val (.ref a0), .val (.int (2 : Int32))] [(.int v3)])) _
    refine XS.aloadN X78.here hx rfl (hb hby d4_8) rfl rfl ?_
    show Steps p.tables e below (T78.setTop (mkF m 9 #[.val (.ref a0), .val (.int (2 : Int32))] [(.ref a0), (.int v3)])) _
    exact k
  obtain ⟨T83, X83, e83, st83⟩ := getF X78 hx hZ hown (host := "") (Or.inl (hw _ (List.mem_of_getElem? (i := 17) rfl))) Via.refl e78 F_start (g := (mkF m 9 #[.val (.ref a0), .val (.int (2 : Int32))] [(.ref a0), (.int v3)])) rfl rfl (hb hby d4_9)
  have pre83 : ∀ t, Steps p.tables e below (T83.setTop (mkF m 12 #[.val (.ref a0), .val (.int (2 : Int32))] [(.ref wa), (.int v3)])) t → Steps p.tables e below (s₁.setTop (entryFrame m #[(.ref a0), (.int (2 : Int32))] 2)) t := fun t k => pre82 _ (st83 t k)
  have pre84 : ∀ t, Steps p.tables e below (T83.setTop (mkF m 13 #[.val (.ref a0), .val (.int (2 : Int32))] [(.int (2 : Int32)), (.ref wa), (.int v3)])) t → Steps p.tables e below (s₁.setTop (entryFrame m #[(.ref a0), (.int (2 : Int32))] 2)) t := fun t k => by
    refine pre83 _ ?_
    show Steps p.tables e below (T83.setTop (mkF m 12 #[.val (.ref a0), .val (.int (2 : Int32))] [(.ref wa), (.int v3)])) _
    refine XS.iloadN X83.here hx rfl (hb hby d4_12) rfl ?_
    show Steps p.tables e below (T83.setTop (mkF m 13 #[.val (.ref a0), .val (.int (2 : Int32))] [(.int (2 : Int32)), (.ref wa), (.int v3)])) _
    exact k
  have Vo_wa_85 := V_wa
  obtain ⟨cl_wa_85, Ar_wa_85, q_wa_85, S_wa_85, M_wa_85, H_wa_85, G_wa_85⟩ := Vo_wa_85
  have hin85 : ¬ ((2 : Int32) < 0 ∨ cl_wa_85.slots.size ≤ ((2 : Int32)).toNatClampNeg) := inb_of S_wa_85 ⟨by decide, by decide⟩
  have hat85 : cl_wa_85.slots[((2 : Int32)).toNatClampNeg]? = some (.int v2) := H_wa_85.at hin85 rfl
  have pre86 : ∀ t, Steps p.tables e below (T83.setTop (mkF m 14 #[.val (.ref a0), .val (.int (2 : Int32))] [(.int v2), (.int v3)])) t → Steps p.tables e below (s₁.setTop (entryFrame m #[(.ref a0), (.int (2 : Int32))] 2)) t := fun t k => pre84 _ (X83.iaload hx (j := (2 : Int32)) (v := (.int v2)) (by rw [e83]; exact Ar_wa_85.1) (State.isArrayOf_alike hZ.alike Ar_wa_85.2.1) Ar_wa_85.2.2 hin85 hat85 (g := (mkF m 13 #[.val (.ref a0), .val (.int (2 : Int32))] [(.int (2 : Int32)), (.ref wa), (.int v3)])) rfl rfl (hb hby d4_13) t k)
  have pre87 : ∀ t, Steps p.tables e below (T83.setTop (mkF m 15 #[.val (.ref a0), .val (.int (2 : Int32))] [(.int (v3 - v2))])) t → Steps p.tables e below (s₁.setTop (entryFrame m #[(.ref a0), (.int (2 : Int32))] 2)) t := fun t k => by
    refine pre86 _ ?_
    show Steps p.tables e below (T83.setTop (mkF m 14 #[.val (.ref a0), .val (.int (2 : Int32))] [(.int v2), (.int v3)])) _
    refine XS.isub X83.here hx rfl (hb hby d4_14) rfl ?_
    show Steps p.tables e below (T83.setTop (mkF m 15 #[.val (.ref a0), .val (.int (2 : Int32))] [(.int (v3 - v2))])) _
    exact k
  obtain ⟨fs, hr, hrun, hended, hW, hsame⟩ := X83.leave (v := some (.int (v3 - v2))) (fun h => by rw [Bd.returns] at h; cases h)
  refine ⟨_, _, pre87 _ ?_, hrun, hended, _, _, rfl, ?_, ⟨_, rfl⟩, hW, hsame.mono (by decide) (by decide)⟩
  · show Steps p.tables e below (T83.setTop (mkF m 15 #[.val (.ref a0), .val (.int (2 : Int32))] [(.int (v3 - v2))])) _
    exact retI X83 hx Bd.returns (hb hby d4_15) hr
  · have hv : f4_2 v2 v3 = (v3 - v2) := by unfold f4_2; rfl
    show Q4_2 v2 v3 h0 n0 _ T83.heap _
    rw [e83]
    exact ⟨by rw [hv], N0, rfl⟩
theorem own_sub (s a : Int32) : (s + a) - s = a := by
  apply Int32.toBitVec_inj.mp
  rw [Int32.toBitVec_sub, Int32.toBitVec_add, BitVec.add_comm, BitVec.add_sub_cancel]
theorem pn_0 : plainName "com/example/tideway/tideway/ColumnsEntriesPinLaw" = true := by first | (simp [plainName, overriddenIn]; done) | decide +kernel
theorem ef_0 (m : MethodId) (x0 : Int32) (x1 : Int32) (x2 : Int32) (x3 : Int32) : entryFrame m #[(.int x0), (.int x1), (.int x2), (.int x3)] maxLocals = mkF m 0 #[.val (.int x0), .val (.int x1), .val (.int x2), .val (.int x3), .unset, .unset, .unset, .unset, .unset] [] := by first | (simp [entryFrame, mkF, argsToLocals, Value.category, maxLocals]; done) | rfl
def Q0 (sv : Int32) (av : Int32) (bv : Int32) (cv : Int32) (h0 : Heap) (n0 : Nat) (v : Option Value) (h : Heap) (L : List Loc) : Prop := v = some (.int (1 : Int32)) ∧ Fr n0 L
set_option maxRecDepth 65536 in
set_option maxHeartbeats 40000000 in
theorem rm0 (l : Launch) (Z : State) (aZ : Array Value) (hw : ∀ d ∈ tables_1, d.before aZ Z = true) (ws : List Jvm.Cond) (sv : Int32) (av : Int32) (bv : Int32) (cv : Int32)  (h0 : Heap) (n0 : Nat) (Z0 : n0 ≤ h0.size)  :
    MetFree l x (head1 (Jvm.Cond.code x code maxLocals ret :: ws) room_1) (fun a U => a = #[(.int sv), (.int av), (.int bv), (.int cv)] ∧ Z.Warmed39 U.vm ∧ U.heap = h0) (fun _ _ _ _ _ => True) (fun _ U o U' => ∃ v L, o = .returned v ∧ Q0 sv av bv cv h0 n0 v U'.heap L ∧ FrameEnd U o U' L room_1.cells room_1.slots) := by
  refine MetFree.of_bodySF (plainFor_of_name pn_0) hisR ?_
  intro p e s m args below meth c s₁ Bd hml0 hP hK
  obtain ⟨rfl, hZ, hh⟩ := hP
  have hx := Bd.exec
  have hby := Bd.bytes
  have hml : c.maxLocals = 9 := hml0
  have hown : s.vm.findClass "com/example/tideway/tideway/ColumnsEntriesPinLaw" = some m.cls := findClass_of_methodNamed Bd.named
  have hnm := (name_of_methodNamed Bd.named Bd.method).1
  have X0 : Stand p l e room_1 s m #[(.int sv), (.int av), (.int bv), (.int cv)] below meth c s₁ [] 0 0 := Stand.of_body Bd
  have e0 : s₁.heap = h0 := by rw [← hh, Bd.state]; rfl
  have N0 := Fr.nil n0
  have pre0 : ∀ t, Steps p.tables e below (s₁.setTop (mkF m 0 #[.val (.int sv), .val (.int av), .val (.int bv), .val (.int cv), .unset, .unset, .unset, .unset, .unset] [])) t → Steps p.tables e below (s₁.setTop (entryFrame m #[(.int sv), (.int av), (.int bv), (.int cv)] maxLocals)) t := fun t k => castTop (ef_0 m sv av bv cv) k
  have pre88 : ∀ t, Steps p.tables e below (s₁.setTop (mkF m 19 #[.val (.int sv), .val (.int av), .val (.int bv), .val (.int cv), .val (.int (av &&& (1073741823 : Int32))), .val (.int (bv &&& (1073741823 : Int32))), .val (.int (cv &&& (1073741823 : Int32))), .unset, .unset] [(.int (4 : Int32))])) t → Steps p.tables e below (s₁.setTop (entryFrame m #[(.int sv), (.int av), (.int bv), (.int cv)] maxLocals)) t := fun t k => by
    refine pre0 _ ?_
    show Steps p.tables e below (s₁.setTop (mkF m 0 #[.val (.int sv), .val (.int av), .val (.int bv), .val (.int cv), .unset, .unset, .unset, .unset, .unset] [])) _
    refine XS.iloadN X0.here hx rfl (hb hby at_0) rfl ?_
    show Steps p.tables e below (s₁.setTop (mkF m 1 #[.val (.int sv), .val (.int av), .val (.int bv), .val (.int cv), .unset, .unset, .unset, .unset, .unset] [(.int av)])) _
    refine X0.ldcInt hx hown (mvT hZ (hw _ (List.mem_of_getElem? (i := 0) rfl))) (g := (mkF m 1 #[.val (.int sv), .val (.int av), .val (.int bv), .val (.int cv), .unset, .unset, .unset, .unset, .unset] [(.int av)])) rfl (hb hby at_1) _ ?_
    show Steps p.tables e below (s₁.setTop (mkF m 3 #[.val (.int sv), .val (.int av), .val (.int bv), .val (.int cv), .unset, .unset, .unset, .unset, .unset] [(.int (1073741823 : Int32)), (.int av)])) _
    refine XS.iand X0.here hx rfl (hb hby at_3) rfl ?_
    show Steps p.tables e below (s₁.setTop (mkF m 4 #[.val (.int sv), .val (.int av), .val (.int bv), .val (.int cv), .unset, .unset, .unset, .unset, .unset] [(.int (av &&& (1073741823 : Int32)))])) _
    refine XS.istore X0.here hx rfl (hb hby at_4) rfl (l' := #[.val (.int sv), .val (.int av), .val (.int bv), .val (.int cv), .val (.int (av &&& (1073741823 : Int32))), .unset, .unset, .unset, .unset]) rfl ?_
    show Steps p.tables e below (s₁.setTop (mkF m 6 #[.val (.int sv), .val (.int av), .val (.int bv), .val (.int cv), .val (.int (av &&& (1073741823 : Int32))), .unset, .unset, .unset, .unset] [])) _
    refine XS.iloadN X0.here hx rfl (hb hby at_6) rfl ?_
    show Steps p.tables e below (s₁.setTop (mkF m 7 #[.val (.int sv), .val (.int av), .val (.int bv), .val (.int cv), .val (.int (av &&& (1073741823 : Int32))), .unset, .unset, .unset, .unset] [(.int bv)])) _
    refine X0.ldcInt hx hown (mvT hZ (hw _ (List.mem_of_getElem? (i := 0) rfl))) (g := (mkF m 7 #[.val (.int sv), .val (.int av), .val (.int bv), .val (.int cv), .val (.int (av &&& (1073741823 : Int32))), .unset, .unset, .unset, .unset] [(.int bv)])) rfl (hb hby at_7) _ ?_
    show Steps p.tables e below (s₁.setTop (mkF m 9 #[.val (.int sv), .val (.int av), .val (.int bv), .val (.int cv), .val (.int (av &&& (1073741823 : Int32))), .unset, .unset, .unset, .unset] [(.int (1073741823 : Int32)), (.int bv)])) _
    refine XS.iand X0.here hx rfl (hb hby at_9) rfl ?_
    show Steps p.tables e below (s₁.setTop (mkF m 10 #[.val (.int sv), .val (.int av), .val (.int bv), .val (.int cv), .val (.int (av &&& (1073741823 : Int32))), .unset, .unset, .unset, .unset] [(.int (bv &&& (1073741823 : Int32)))])) _
    refine XS.istore X0.here hx rfl (hb hby at_10) rfl (l' := #[.val (.int sv), .val (.int av), .val (.int bv), .val (.int cv), .val (.int (av &&& (1073741823 : Int32))), .val (.int (bv &&& (1073741823 : Int32))), .unset, .unset, .unset]) rfl ?_
    show Steps p.tables e below (s₁.setTop (mkF m 12 #[.val (.int sv), .val (.int av), .val (.int bv), .val (.int cv), .val (.int (av &&& (1073741823 : Int32))), .val (.int (bv &&& (1073741823 : Int32))), .unset, .unset, .unset] [])) _
    refine XS.iloadN X0.here hx rfl (hb hby at_12) rfl ?_
    show Steps p.tables e below (s₁.setTop (mkF m 13 #[.val (.int sv), .val (.int av), .val (.int bv), .val (.int cv), .val (.int (av &&& (1073741823 : Int32))), .val (.int (bv &&& (1073741823 : Int32))), .unset, .unset, .unset] [(.int cv)])) _
    refine X0.ldcInt hx hown (mvT hZ (hw _ (List.mem_of_getElem? (i := 0) rfl))) (g := (mkF m 13 #[.val (.int sv), .val (.int av), .val (.int bv), .val (.int cv), .val (.int (av &&& (1073741823 : Int32))), .val (.int (bv &&& (1073741823 : Int32))), .unset, .unset, .unset] [(.int cv)])) rfl (hb hby at_13) _ ?_
    show Steps p.tables e below (s₁.setTop (mkF m 15 #[.val (.int sv), .val (.int av), .val (.int bv), .val (.int cv), .val (.int (av &&& (1073741823 : Int32))), .val (.int (bv &&& (1073741823 : Int32))), .unset, .unset, .unset] [(.int (1073741823 : Int32)), (.int cv)])) _
    refine XS.iand X0.here hx rfl (hb hby at_15) rfl ?_
    show Steps p.tables e below (s₁.setTop (mkF m 16 #[.val (.int sv), .val (.int av), .val (.int bv), .val (.int cv), .val (.int (av &&& (1073741823 : Int32))), .val (.int (bv &&& (1073741823 : Int32))), .unset, .unset, .unset] [(.int (cv &&& (1073741823 : Int32)))])) _
    refine XS.istore X0.here hx rfl (hb hby at_16) rfl (l' := #[.val (.int sv), .val (.int av), .val (.int bv), .val (.int cv), .val (.int (av &&& (1073741823 : Int32))), .val (.int (bv &&& (1073741823 : Int32))), .val (.int (cv &&& (1073741823 : Int32))), .unset, .unset]) rfl ?_
    show Steps p.tables e below (s₁.setTop (mkF m 18 #[.val (.int sv), .val (.int av), .val (.int bv), .val (.int cv), .val (.int (av &&& (1073741823 : Int32))), .val (.int (bv &&& (1073741823 : Int32))), .val (.int (cv &&& (1073741823 : Int32))), .unset, .unset] [])) _
    refine XS.iconst X0.here hx rfl (hb hby at_18) ?_
    show Steps p.tables e below (s₁.setTop (mkF m 19 #[.val (.int sv), .val (.int av), .val (.int bv), .val (.int cv), .val (.int (av &&& (1073741823 : Int32))), .val (.int (bv &&& (1073741823 : Int32))), .val (.int (cv &&& (1073741823 : Int32))), .unset, .unset] [(.int (4 : Int32))])) _
    exact k
  obtain ⟨T89, h89, k89, X89, e89, E89, A89, st89⟩ := newP X0 hx hZ (hw _ (List.mem_of_getElem? (i := 1) rfl)) e0 (g := (mkF m 19 #[.val (.int sv), .val (.int av), .val (.int bv), .val (.int cv), .val (.int (av &&& (1073741823 : Int32))), .val (.int (bv &&& (1073741823 : Int32))), .val (.int (cv &&& (1073741823 : Int32))), .unset, .unset] [(.int (4 : Int32))])) rfl (hb hby at_19) rfl (by decide) (cap := 4) (by decide) (by decide) (by decide) (by decide)
  obtain ⟨b89, g89⟩ : ∃ z, z = h0.size := ⟨_, rfl⟩
  have g_b89 : n0 ≤ b89 := Nat.le_trans Z0 (Nat.le_of_eq g89.symm)
  have sz_b89 : h0.size ≤ b89 := Nat.le_of_eq g89.symm
  rw [← g89] at A89 st89
  have Zs89 : n0 ≤ h89.size := Nat.le_trans Z0 E89.1
  have K0 := Keep.refl h0 []
  have K89 := K0.ext E89
  have V_b89 : Arv Z h89 b89 k89 .int (4 : Int32) [(.int (0 : Int32)), (.int (0 : Int32)), (.int (0 : Int32)), (.int (0 : Int32))] (.int (0 : Int32)) := (Arv.new A89 (by decide)).pad (pad_rep [] (.int (0 : Int32)) 4)
  have pre89 : ∀ t, Steps p.tables e below (T89.setTop (mkF m 21 #[.val (.int sv), .val (.int av), .val (.int bv), .val (.int cv), .val (.int (av &&& (1073741823 : Int32))), .val (.int (bv &&& (1073741823 : Int32))), .val (.int (cv &&& (1073741823 : Int32))), .unset, .unset] [(.ref b89)])) t → Steps p.tables e below (s₁.setTop (entryFrame m #[(.int sv), (.int av), (.int bv), (.int cv)] maxLocals)) t := fun t k => pre88 _ (st89 t k)
  have pre90 : ∀ t, Steps p.tables e below (T89.setTop (mkF m 27 #[.val (.int sv), .val (.int av), .val (.int bv), .val (.int cv), .val (.int (av &&& (1073741823 : Int32))), .val (.int (bv &&& (1073741823 : Int32))), .val (.int (cv &&& (1073741823 : Int32))), .val (.ref b89), .unset] [(.int sv), (.int (0 : Int32)), (.ref b89)])) t → Steps p.tables e below (s₁.setTop (entryFrame m #[(.int sv), (.int av), (.int bv), (.int cv)] maxLocals)) t := fun t k => by
    refine pre89 _ ?_
    show Steps p.tables e below (T89.setTop (mkF m 21 #[.val (.int sv), .val (.int av), .val (.int bv), .val (.int cv), .val (.int (av &&& (1073741823 : Int32))), .val (.int (bv &&& (1073741823 : Int32))), .val (.int (cv &&& (1073741823 : Int32))), .unset, .unset] [(.ref b89)])) _
    refine XS.astore X89.here hx rfl (hb hby at_21) rfl rfl (l' := #[.val (.int sv), .val (.int av), .val (.int bv), .val (.int cv), .val (.int (av &&& (1073741823 : Int32))), .val (.int (bv &&& (1073741823 : Int32))), .val (.int (cv &&& (1073741823 : Int32))), .val (.ref b89), .unset]) rfl ?_
    show Steps p.tables e below (T89.setTop (mkF m 23 #[.val (.int sv), .val (.int av), .val (.int bv), .val (.int cv), .val (.int (av &&& (1073741823 : Int32))), .val (.int (bv &&& (1073741823 : Int32))), .val (.int (cv &&& (1073741823 : Int32))), .val (.ref b89), .unset] [])) _
    refine XS.aload X89.here hx rfl (hb hby at_23) rfl rfl ?_
    show Steps p.tables e below (T89.setTop (mkF m 25 #[.val (.int sv), .val (.int av), .val (.int bv), .val (.int cv), .val (.int (av &&& (1073741823 : Int32))), .val (.int (bv &&& (1073741823 : Int32))), .val (.int (cv &&& (1073741823 : Int32))), .val (.ref b89), .unset] [(.ref b89)])) _
    refine XS.iconst X89.here hx rfl (hb hby at_25) ?_
    show Steps p.tables e below (T89.setTop (mkF m 26 #[.val (.int sv), .val (.int av), .val (.int bv), .val (.int cv), .val (.int (av &&& (1073741823 : Int32))), .val (.int (bv &&& (1073741823 : Int32))), .val (.int (cv &&& (1073741823 : Int32))), .val (.ref b89), .unset] [(.int (0 : Int32)), (.ref b89)])) _
    refine XS.iloadN X89.here hx rfl (hb hby at_26) rfl ?_
    show Steps p.tables e below (T89.setTop (mkF m 27 #[.val (.int sv), .val (.int av), .val (.int bv), .val (.int cv), .val (.int (av &&& (1073741823 : Int32))), .val (.int (bv &&& (1073741823 : Int32))), .val (.int (cv &&& (1073741823 : Int32))), .val (.ref b89), .unset] [(.int sv), (.int (0 : Int32)), (.ref b89)])) _
    exact k
  have Vo_b89_91 := V_b89
  obtain ⟨cl_b89_91, Ar_b89_91, q_b89_91, S_b89_91, M_b89_91, H_b89_91, G_b89_91⟩ := Vo_b89_91
  have hin91 : ¬ ((0 : Int32) < 0 ∨ cl_b89_91.slots.size ≤ ((0 : Int32)).toNatClampNeg) := inb_of S_b89_91 ⟨by decide, by decide⟩
  obtain ⟨T91, h91, X91, e91, W91, st91⟩ := stI X89 hx hZ e89 Ar_b89_91 (j := (0 : Int32)) hin91 (g := (mkF m 27 #[.val (.int sv), .val (.int av), .val (.int bv), .val (.int cv), .val (.int (av &&& (1073741823 : Int32))), .val (.int (bv &&& (1073741823 : Int32))), .val (.int (cv &&& (1073741823 : Int32))), .val (.ref b89), .unset] [(.int sv), (.int (0 : Int32)), (.ref b89)])) rfl rfl (hb hby at_27)
  have V91_b89 := Arv.set Ar_b89_91 q_b89_91 S_b89_91 M_b89_91 H_b89_91 G_b89_91 rfl W91 0 rfl (Nat.le_of_ble_eq_true rfl)
  have F91_0 := V91_b89
  have Zs91 : n0 ≤ h91.size := Nat.le_trans Zs89 (Keep.of_wr W91).1
  have K91 := K89.wr W91 (Or.inr sz_b89)
  have N91 := Fr.snoc X91 N0 g_b89
  have pre91 : ∀ t, Steps p.tables e below (T91.setTop (mkF m 28 #[.val (.int sv), .val (.int av), .val (.int bv), .val (.int cv), .val (.int (av &&& (1073741823 : Int32))), .val (.int (bv &&& (1073741823 : Int32))), .val (.int (cv &&& (1073741823 : Int32))), .val (.ref b89), .unset] [])) t → Steps p.tables e below (s₁.setTop (entryFrame m #[(.int sv), (.int av), (.int bv), (.int cv)] maxLocals)) t := fun t k => pre90 _ (st91 t k)
  have pre92 : ∀ t, Steps p.tables e below (T91.setTop (mkF m 35 #[.val (.int sv), .val (.int av), .val (.int bv), .val (.int cv), .val (.int (av &&& (1073741823 : Int32))), .val (.int (bv &&& (1073741823 : Int32))), .val (.int (cv &&& (1073741823 : Int32))), .val (.ref b89), .unset] [(.int (sv + (av &&& (1073741823 : Int32)))), (.int (1 : Int32)), (.ref b89)])) t → Steps p.tables e below (s₁.setTop (entryFrame m #[(.int sv), (.int av), (.int bv), (.int cv)] maxLocals)) t := fun t k => by
    refine pre91 _ ?_
    show Steps p.tables e below (T91.setTop (mkF m 28 #[.val (.int sv), .val (.int av), .val (.int bv), .val (.int cv), .val (.int (av &&& (1073741823 : Int32))), .val (.int (bv &&& (1073741823 : Int32))), .val (.int (cv &&& (1073741823 : Int32))), .val (.ref b89), .unset] [])) _
    refine XS.aload X91.here hx rfl (hb hby at_28) rfl rfl ?_
    show Steps p.tables e below (T91.setTop (mkF m 30 #[.val (.int sv), .val (.int av), .val (.int bv), .val (.int cv), .val (.int (av &&& (1073741823 : Int32))), .val (.int (bv &&& (1073741823 : Int32))), .val (.int (cv &&& (1073741823 : Int32))), .val (.ref b89), .unset] [(.ref b89)])) _
    refine XS.iconst X91.here hx rfl (hb hby at_30) ?_
    show Steps p.tables e below (T91.setTop (mkF m 31 #[.val (.int sv), .val (.int av), .val (.int bv), .val (.int cv), .val (.int (av &&& (1073741823 : Int32))), .val (.int (bv &&& (1073741823 : Int32))), .val (.int (cv &&& (1073741823 : Int32))), .val (.ref b89), .unset] [(.int (1 : Int32)), (.ref b89)])) _
    refine XS.iloadN X91.here hx rfl (hb hby at_31) rfl ?_
    show Steps p.tables e below (T91.setTop (mkF m 32 #[.val (.int sv), .val (.int av), .val (.int bv), .val (.int cv), .val (.int (av &&& (1073741823 : Int32))), .val (.int (bv &&& (1073741823 : Int32))), .val (.int (cv &&& (1073741823 : Int32))), .val (.ref b89), .unset] [(.int sv), (.int (1 : Int32)), (.ref b89)])) _
    refine XS.iload X91.here hx rfl (hb hby at_32) rfl ?_
    show Steps p.tables e below (T91.setTop (mkF m 34 #[.val (.int sv), .val (.int av), .val (.int bv), .val (.int cv), .val (.int (av &&& (1073741823 : Int32))), .val (.int (bv &&& (1073741823 : Int32))), .val (.int (cv &&& (1073741823 : Int32))), .val (.ref b89), .unset] [(.int (av &&& (1073741823 : Int32))), (.int sv), (.int (1 : Int32)), (.ref b89)])) _
    refine XS.iadd X91.here hx rfl (hb hby at_34) rfl ?_
    show Steps p.tables e below (T91.setTop (mkF m 35 #[.val (.int sv), .val (.int av), .val (.int bv), .val (.int cv), .val (.int (av &&& (1073741823 : Int32))), .val (.int (bv &&& (1073741823 : Int32))), .val (.int (cv &&& (1073741823 : Int32))), .val (.ref b89), .unset] [(.int (sv + (av &&& (1073741823 : Int32)))), (.int (1 : Int32)), (.ref b89)])) _
    exact k
  have Vo_b89_93 := F91_0
  obtain ⟨cl_b89_93, Ar_b89_93, q_b89_93, S_b89_93, M_b89_93, H_b89_93, G_b89_93⟩ := Vo_b89_93
  have hin93 : ¬ ((1 : Int32) < 0 ∨ cl_b89_93.slots.size ≤ ((1 : Int32)).toNatClampNeg) := inb_of S_b89_93 ⟨by decide, by decide⟩
  obtain ⟨T93, h93, X93, e93, W93, st93⟩ := stI X91 hx hZ e91 Ar_b89_93 (j := (1 : Int32)) hin93 (g := (mkF m 35 #[.val (.int sv), .val (.int av), .val (.int bv), .val (.int cv), .val (.int (av &&& (1073741823 : Int32))), .val (.int (bv &&& (1073741823 : Int32))), .val (.int (cv &&& (1073741823 : Int32))), .val (.ref b89), .unset] [(.int (sv + (av &&& (1073741823 : Int32)))), (.int (1 : Int32)), (.ref b89)])) rfl rfl (hb hby at_35)
  have V93_b89 := Arv.set Ar_b89_93 q_b89_93 S_b89_93 M_b89_93 H_b89_93 G_b89_93 rfl W93 1 rfl (Nat.le_of_ble_eq_true rfl)
  have F93_0 := V93_b89
  have Zs93 : n0 ≤ h93.size := Nat.le_trans Zs91 (Keep.of_wr W93).1
  have K93 := K91.wr W93 (Or.inr sz_b89)
  have N93 := Fr.snoc X93 N91 g_b89
  have pre93 : ∀ t, Steps p.tables e below (T93.setTop (mkF m 36 #[.val (.int sv), .val (.int av), .val (.int bv), .val (.int cv), .val (.int (av &&& (1073741823 : Int32))), .val (.int (bv &&& (1073741823 : Int32))), .val (.int (cv &&& (1073741823 : Int32))), .val (.ref b89), .unset] [])) t → Steps p.tables e below (s₁.setTop (entryFrame m #[(.int sv), (.int av), (.int bv), (.int cv)] maxLocals)) t := fun t k => pre92 _ (st93 t k)
  have pre94 : ∀ t, Steps p.tables e below (T93.setTop (mkF m 46 #[.val (.int sv), .val (.int av), .val (.int bv), .val (.int cv), .val (.int (av &&& (1073741823 : Int32))), .val (.int (bv &&& (1073741823 : Int32))), .val (.int (cv &&& (1073741823 : Int32))), .val (.ref b89), .unset] [(.int ((sv + (av &&& (1073741823 : Int32))) + (bv &&& (1073741823 : Int32)))), (.int (2 : Int32)), (.ref b89)])) t → Steps p.tables e below (s₁.setTop (entryFrame m #[(.int sv), (.int av), (.int bv), (.int cv)] maxLocals)) t := fun t k => by
    refine pre93 _ ?_
    show Steps p.tables e below (T93.setTop (mkF m 36 #[.val (.int sv), .val (.int av), .val (.int bv), .val (.int cv), .val (.int (av &&& (1073741823 : Int32))), .val (.int (bv &&& (1073741823 : Int32))), .val (.int (cv &&& (1073741823 : Int32))), .val (.ref b89), .unset] [])) _
    refine XS.aload X93.here hx rfl (hb hby at_36) rfl rfl ?_
    show Steps p.tables e below (T93.setTop (mkF m 38 #[.val (.int sv), .val (.int av), .val (.int bv), .val (.int cv), .val (.int (av &&& (1073741823 : Int32))), .val (.int (bv &&& (1073741823 : Int32))), .val (.int (cv &&& (1073741823 : Int32))), .val (.ref b89), .unset] [(.ref b89)])) _
    refine XS.iconst X93.here hx rfl (hb hby at_38) ?_
    show Steps p.tables e below (T93.setTop (mkF m 39 #[.val (.int sv), .val (.int av), .val (.int bv), .val (.int cv), .val (.int (av &&& (1073741823 : Int32))), .val (.int (bv &&& (1073741823 : Int32))), .val (.int (cv &&& (1073741823 : Int32))), .val (.ref b89), .unset] [(.int (2 : Int32)), (.ref b89)])) _
    refine XS.iloadN X93.here hx rfl (hb hby at_39) rfl ?_
    show Steps p.tables e below (T93.setTop (mkF m 40 #[.val (.int sv), .val (.int av), .val (.int bv), .val (.int cv), .val (.int (av &&& (1073741823 : Int32))), .val (.int (bv &&& (1073741823 : Int32))), .val (.int (cv &&& (1073741823 : Int32))), .val (.ref b89), .unset] [(.int sv), (.int (2 : Int32)), (.ref b89)])) _
    refine XS.iload X93.here hx rfl (hb hby at_40) rfl ?_
    show Steps p.tables e below (T93.setTop (mkF m 42 #[.val (.int sv), .val (.int av), .val (.int bv), .val (.int cv), .val (.int (av &&& (1073741823 : Int32))), .val (.int (bv &&& (1073741823 : Int32))), .val (.int (cv &&& (1073741823 : Int32))), .val (.ref b89), .unset] [(.int (av &&& (1073741823 : Int32))), (.int sv), (.int (2 : Int32)), (.ref b89)])) _
    refine XS.iadd X93.here hx rfl (hb hby at_42) rfl ?_
    show Steps p.tables e below (T93.setTop (mkF m 43 #[.val (.int sv), .val (.int av), .val (.int bv), .val (.int cv), .val (.int (av &&& (1073741823 : Int32))), .val (.int (bv &&& (1073741823 : Int32))), .val (.int (cv &&& (1073741823 : Int32))), .val (.ref b89), .unset] [(.int (sv + (av &&& (1073741823 : Int32)))), (.int (2 : Int32)), (.ref b89)])) _
    refine XS.iload X93.here hx rfl (hb hby at_43) rfl ?_
    show Steps p.tables e below (T93.setTop (mkF m 45 #[.val (.int sv), .val (.int av), .val (.int bv), .val (.int cv), .val (.int (av &&& (1073741823 : Int32))), .val (.int (bv &&& (1073741823 : Int32))), .val (.int (cv &&& (1073741823 : Int32))), .val (.ref b89), .unset] [(.int (bv &&& (1073741823 : Int32))), (.int (sv + (av &&& (1073741823 : Int32)))), (.int (2 : Int32)), (.ref b89)])) _
    refine XS.iadd X93.here hx rfl (hb hby at_45) rfl ?_
    show Steps p.tables e below (T93.setTop (mkF m 46 #[.val (.int sv), .val (.int av), .val (.int bv), .val (.int cv), .val (.int (av &&& (1073741823 : Int32))), .val (.int (bv &&& (1073741823 : Int32))), .val (.int (cv &&& (1073741823 : Int32))), .val (.ref b89), .unset] [(.int ((sv + (av &&& (1073741823 : Int32))) + (bv &&& (1073741823 : Int32)))), (.int (2 : Int32)), (.ref b89)])) _
    exact k
  have Vo_b89_95 := F93_0
  obtain ⟨cl_b89_95, Ar_b89_95, q_b89_95, S_b89_95, M_b89_95, H_b89_95, G_b89_95⟩ := Vo_b89_95
  have hin95 : ¬ ((2 : Int32) < 0 ∨ cl_b89_95.slots.size ≤ ((2 : Int32)).toNatClampNeg) := inb_of S_b89_95 ⟨by decide, by decide⟩
  obtain ⟨T95, h95, X95, e95, W95, st95⟩ := stI X93 hx hZ e93 Ar_b89_95 (j := (2 : Int32)) hin95 (g := (mkF m 46 #[.val (.int sv), .val (.int av), .val (.int bv), .val (.int cv), .val (.int (av &&& (1073741823 : Int32))), .val (.int (bv &&& (1073741823 : Int32))), .val (.int (cv &&& (1073741823 : Int32))), .val (.ref b89), .unset] [(.int ((sv + (av &&& (1073741823 : Int32))) + (bv &&& (1073741823 : Int32)))), (.int (2 : Int32)), (.ref b89)])) rfl rfl (hb hby at_46)
  have V95_b89 := Arv.set Ar_b89_95 q_b89_95 S_b89_95 M_b89_95 H_b89_95 G_b89_95 rfl W95 2 rfl (Nat.le_of_ble_eq_true rfl)
  have F95_0 := V95_b89
  have Zs95 : n0 ≤ h95.size := Nat.le_trans Zs93 (Keep.of_wr W95).1
  have K95 := K93.wr W95 (Or.inr sz_b89)
  have N95 := Fr.snoc X95 N93 g_b89
  have pre95 : ∀ t, Steps p.tables e below (T95.setTop (mkF m 47 #[.val (.int sv), .val (.int av), .val (.int bv), .val (.int cv), .val (.int (av &&& (1073741823 : Int32))), .val (.int (bv &&& (1073741823 : Int32))), .val (.int (cv &&& (1073741823 : Int32))), .val (.ref b89), .unset] [])) t → Steps p.tables e below (s₁.setTop (entryFrame m #[(.int sv), (.int av), (.int bv), (.int cv)] maxLocals)) t := fun t k => pre94 _ (st95 t k)
  have pre96 : ∀ t, Steps p.tables e below (T95.setTop (mkF m 60 #[.val (.int sv), .val (.int av), .val (.int bv), .val (.int cv), .val (.int (av &&& (1073741823 : Int32))), .val (.int (bv &&& (1073741823 : Int32))), .val (.int (cv &&& (1073741823 : Int32))), .val (.ref b89), .unset] [(.int (((sv + (av &&& (1073741823 : Int32))) + (bv &&& (1073741823 : Int32))) + (cv &&& (1073741823 : Int32)))), (.int (3 : Int32)), (.ref b89)])) t → Steps p.tables e below (s₁.setTop (entryFrame m #[(.int sv), (.int av), (.int bv), (.int cv)] maxLocals)) t := fun t k => by
    refine pre95 _ ?_
    show Steps p.tables e below (T95.setTop (mkF m 47 #[.val (.int sv), .val (.int av), .val (.int bv), .val (.int cv), .val (.int (av &&& (1073741823 : Int32))), .val (.int (bv &&& (1073741823 : Int32))), .val (.int (cv &&& (1073741823 : Int32))), .val (.ref b89), .unset] [])) _
    refine XS.aload X95.here hx rfl (hb hby at_47) rfl rfl ?_
    show Steps p.tables e below (T95.setTop (mkF m 49 #[.val (.int sv), .val (.int av), .val (.int bv), .val (.int cv), .val (.int (av &&& (1073741823 : Int32))), .val (.int (bv &&& (1073741823 : Int32))), .val (.int (cv &&& (1073741823 : Int32))), .val (.ref b89), .unset] [(.ref b89)])) _
    refine XS.iconst X95.here hx rfl (hb hby at_49) ?_
    show Steps p.tables e below (T95.setTop (mkF m 50 #[.val (.int sv), .val (.int av), .val (.int bv), .val (.int cv), .val (.int (av &&& (1073741823 : Int32))), .val (.int (bv &&& (1073741823 : Int32))), .val (.int (cv &&& (1073741823 : Int32))), .val (.ref b89), .unset] [(.int (3 : Int32)), (.ref b89)])) _
    refine XS.iloadN X95.here hx rfl (hb hby at_50) rfl ?_
    show Steps p.tables e below (T95.setTop (mkF m 51 #[.val (.int sv), .val (.int av), .val (.int bv), .val (.int cv), .val (.int (av &&& (1073741823 : Int32))), .val (.int (bv &&& (1073741823 : Int32))), .val (.int (cv &&& (1073741823 : Int32))), .val (.ref b89), .unset] [(.int sv), (.int (3 : Int32)), (.ref b89)])) _
    refine XS.iload X95.here hx rfl (hb hby at_51) rfl ?_
    show Steps p.tables e below (T95.setTop (mkF m 53 #[.val (.int sv), .val (.int av), .val (.int bv), .val (.int cv), .val (.int (av &&& (1073741823 : Int32))), .val (.int (bv &&& (1073741823 : Int32))), .val (.int (cv &&& (1073741823 : Int32))), .val (.ref b89), .unset] [(.int (av &&& (1073741823 : Int32))), (.int sv), (.int (3 : Int32)), (.ref b89)])) _
    refine XS.iadd X95.here hx rfl (hb hby at_53) rfl ?_
    show Steps p.tables e below (T95.setTop (mkF m 54 #[.val (.int sv), .val (.int av), .val (.int bv), .val (.int cv), .val (.int (av &&& (1073741823 : Int32))), .val (.int (bv &&& (1073741823 : Int32))), .val (.int (cv &&& (1073741823 : Int32))), .val (.ref b89), .unset] [(.int (sv + (av &&& (1073741823 : Int32)))), (.int (3 : Int32)), (.ref b89)])) _
    refine XS.iload X95.here hx rfl (hb hby at_54) rfl ?_
    show Steps p.tables e below (T95.setTop (mkF m 56 #[.val (.int sv), .val (.int av), .val (.int bv), .val (.int cv), .val (.int (av &&& (1073741823 : Int32))), .val (.int (bv &&& (1073741823 : Int32))), .val (.int (cv &&& (1073741823 : Int32))), .val (.ref b89), .unset] [(.int (bv &&& (1073741823 : Int32))), (.int (sv + (av &&& (1073741823 : Int32)))), (.int (3 : Int32)), (.ref b89)])) _
    refine XS.iadd X95.here hx rfl (hb hby at_56) rfl ?_
    show Steps p.tables e below (T95.setTop (mkF m 57 #[.val (.int sv), .val (.int av), .val (.int bv), .val (.int cv), .val (.int (av &&& (1073741823 : Int32))), .val (.int (bv &&& (1073741823 : Int32))), .val (.int (cv &&& (1073741823 : Int32))), .val (.ref b89), .unset] [(.int ((sv + (av &&& (1073741823 : Int32))) + (bv &&& (1073741823 : Int32)))), (.int (3 : Int32)), (.ref b89)])) _
    refine XS.iload X95.here hx rfl (hb hby at_57) rfl ?_
    show Steps p.tables e below (T95.setTop (mkF m 59 #[.val (.int sv), .val (.int av), .val (.int bv), .val (.int cv), .val (.int (av &&& (1073741823 : Int32))), .val (.int (bv &&& (1073741823 : Int32))), .val (.int (cv &&& (1073741823 : Int32))), .val (.ref b89), .unset] [(.int (cv &&& (1073741823 : Int32))), (.int ((sv + (av &&& (1073741823 : Int32))) + (bv &&& (1073741823 : Int32)))), (.int (3 : Int32)), (.ref b89)])) _
    refine XS.iadd X95.here hx rfl (hb hby at_59) rfl ?_
    show Steps p.tables e below (T95.setTop (mkF m 60 #[.val (.int sv), .val (.int av), .val (.int bv), .val (.int cv), .val (.int (av &&& (1073741823 : Int32))), .val (.int (bv &&& (1073741823 : Int32))), .val (.int (cv &&& (1073741823 : Int32))), .val (.ref b89), .unset] [(.int (((sv + (av &&& (1073741823 : Int32))) + (bv &&& (1073741823 : Int32))) + (cv &&& (1073741823 : Int32)))), (.int (3 : Int32)), (.ref b89)])) _
    exact k
  have Vo_b89_97 := F95_0
  obtain ⟨cl_b89_97, Ar_b89_97, q_b89_97, S_b89_97, M_b89_97, H_b89_97, G_b89_97⟩ := Vo_b89_97
  have hin97 : ¬ ((3 : Int32) < 0 ∨ cl_b89_97.slots.size ≤ ((3 : Int32)).toNatClampNeg) := inb_of S_b89_97 ⟨by decide, by decide⟩
  obtain ⟨T97, h97, X97, e97, W97, st97⟩ := stI X95 hx hZ e95 Ar_b89_97 (j := (3 : Int32)) hin97 (g := (mkF m 60 #[.val (.int sv), .val (.int av), .val (.int bv), .val (.int cv), .val (.int (av &&& (1073741823 : Int32))), .val (.int (bv &&& (1073741823 : Int32))), .val (.int (cv &&& (1073741823 : Int32))), .val (.ref b89), .unset] [(.int (((sv + (av &&& (1073741823 : Int32))) + (bv &&& (1073741823 : Int32))) + (cv &&& (1073741823 : Int32)))), (.int (3 : Int32)), (.ref b89)])) rfl rfl (hb hby at_60)
  have V97_b89 := Arv.set Ar_b89_97 q_b89_97 S_b89_97 M_b89_97 H_b89_97 G_b89_97 rfl W97 3 rfl (Nat.le_of_ble_eq_true rfl)
  have F97_0 := V97_b89
  have Zs97 : n0 ≤ h97.size := Nat.le_trans Zs95 (Keep.of_wr W97).1
  have K97 := K95.wr W97 (Or.inr sz_b89)
  have N97 := Fr.snoc X97 N95 g_b89
  have pre97 : ∀ t, Steps p.tables e below (T97.setTop (mkF m 61 #[.val (.int sv), .val (.int av), .val (.int bv), .val (.int cv), .val (.int (av &&& (1073741823 : Int32))), .val (.int (bv &&& (1073741823 : Int32))), .val (.int (cv &&& (1073741823 : Int32))), .val (.ref b89), .unset] [])) t → Steps p.tables e below (s₁.setTop (entryFrame m #[(.int sv), (.int av), (.int bv), (.int cv)] maxLocals)) t := fun t k => pre96 _ (st97 t k)
  obtain ⟨T99, h99, X99, e99, E99, A99, D99, -, st99⟩ := newO X97 hx hZ hown (hw _ (List.mem_of_getElem? (i := 2) rfl)) (hw _ (List.mem_of_getElem? (i := 3) rfl)) (hw _ (List.mem_of_getElem? (i := 4) rfl)) e97 (g := (mkF m 61 #[.val (.int sv), .val (.int av), .val (.int bv), .val (.int cv), .val (.int (av &&& (1073741823 : Int32))), .val (.int (bv &&& (1073741823 : Int32))), .val (.int (cv &&& (1073741823 : Int32))), .val (.ref b89), .unset] [])) rfl (hb hby at_61) (by decide) (by decide)
  obtain ⟨b99, g99⟩ : ∃ z, z = h97.size := ⟨_, rfl⟩
  have ne_b89_b99 : b89 ≠ b99 := Nat.ne_of_lt (Nat.lt_of_lt_of_le F97_0.lt (Nat.le_of_eq g99.symm))
  have g_b99 : n0 ≤ b99 := Nat.le_trans Zs97 (Nat.le_of_eq g99.symm)
  have sz_b99 : h0.size ≤ b99 := Nat.le_trans K97.1 (Nat.le_of_eq g99.symm)
  rw [← g99] at A99 D99 st99
  have F99_0 := F97_0.ext E99
  have Zs99 : n0 ≤ h99.size := Nat.le_trans Zs97 E99.1
  have K99 := K97.ext E99
  have F_start_b99 : Fld Z h99 b99 "com/example/tideway/tideway/LinearProgram$Columns" "start" "[I" .null := D99 (Or.inr (hw _ (List.mem_of_getElem? (i := 18) rfl))) (ty := (.array .int)) (by decide)
  have F_rows_b99 : Fld Z h99 b99 "com/example/tideway/tideway/LinearProgram$Columns" "rows" "[I" .null := D99 (Or.inr (hw _ (List.mem_of_getElem? (i := 20) rfl))) (ty := (.array .int)) (by decide)
  have F_values_b99 : Fld Z h99 b99 "com/example/tideway/tideway/LinearProgram$Columns" "values" "[D" .null := D99 (Or.inr (hw _ (List.mem_of_getElem? (i := 22) rfl))) (ty := (.array .double)) (by decide)
  have pre99 : ∀ t, Steps p.tables e below (T99.setTop (mkF m 64 #[.val (.int sv), .val (.int av), .val (.int bv), .val (.int cv), .val (.int (av &&& (1073741823 : Int32))), .val (.int (bv &&& (1073741823 : Int32))), .val (.int (cv &&& (1073741823 : Int32))), .val (.ref b89), .unset] [(.ref b99)])) t → Steps p.tables e below (s₁.setTop (entryFrame m #[(.int sv), (.int av), (.int bv), (.int cv)] maxLocals)) t := fun t k => pre97 _ (st99 t k)
  have pre100 : ∀ t, Steps p.tables e below (T99.setTop (mkF m 68 #[.val (.int sv), .val (.int av), .val (.int bv), .val (.int cv), .val (.int (av &&& (1073741823 : Int32))), .val (.int (bv &&& (1073741823 : Int32))), .val (.int (cv &&& (1073741823 : Int32))), .val (.ref b89), .unset] [(.int (0 : Int32)), (.ref b89), (.ref b99), (.ref b99)])) t → Steps p.tables e below (s₁.setTop (entryFrame m #[(.int sv), (.int av), (.int bv), (.int cv)] maxLocals)) t := fun t k => by
    refine pre99 _ ?_
    show Steps p.tables e below (T99.setTop (mkF m 64 #[.val (.int sv), .val (.int av), .val (.int bv), .val (.int cv), .val (.int (av &&& (1073741823 : Int32))), .val (.int (bv &&& (1073741823 : Int32))), .val (.int (cv &&& (1073741823 : Int32))), .val (.ref b89), .unset] [(.ref b99)])) _
    refine XS.dup X99.here hx rfl (hb hby at_64) rfl rfl ?_
    show Steps p.tables e below (T99.setTop (mkF m 65 #[.val (.int sv), .val (.int av), .val (.int bv), .val (.int cv), .val (.int (av &&& (1073741823 : Int32))), .val (.int (bv &&& (1073741823 : Int32))), .val (.int (cv &&& (1073741823 : Int32))), .val (.ref b89), .unset] [(.ref b99), (.ref b99)])) _
    refine XS.aload X99.here hx rfl (hb hby at_65) rfl rfl ?_
    show Steps p.tables e below (T99.setTop (mkF m 67 #[.val (.int sv), .val (.int av), .val (.int bv), .val (.int cv), .val (.int (av &&& (1073741823 : Int32))), .val (.int (bv &&& (1073741823 : Int32))), .val (.int (cv &&& (1073741823 : Int32))), .val (.ref b89), .unset] [(.ref b89), (.ref b99), (.ref b99)])) _
    refine XS.iconst X99.here hx rfl (hb hby at_67) ?_
    show Steps p.tables e below (T99.setTop (mkF m 68 #[.val (.int sv), .val (.int av), .val (.int bv), .val (.int cv), .val (.int (av &&& (1073741823 : Int32))), .val (.int (bv &&& (1073741823 : Int32))), .val (.int (cv &&& (1073741823 : Int32))), .val (.ref b89), .unset] [(.int (0 : Int32)), (.ref b89), (.ref b99), (.ref b99)])) _
    exact k
  obtain ⟨T101, h101, k101, X101, e101, E101, A101, st101⟩ := newP X99 hx hZ (hw _ (List.mem_of_getElem? (i := 1) rfl)) e99 (g := (mkF m 68 #[.val (.int sv), .val (.int av), .val (.int bv), .val (.int cv), .val (.int (av &&& (1073741823 : Int32))), .val (.int (bv &&& (1073741823 : Int32))), .val (.int (cv &&& (1073741823 : Int32))), .val (.ref b89), .unset] [(.int (0 : Int32)), (.ref b89), (.ref b99), (.ref b99)])) rfl (hb hby at_68) rfl (by decide) (cap := 0) (by decide) (by decide) (by decide) (by decide)
  obtain ⟨b101, g101⟩ : ∃ z, z = h99.size := ⟨_, rfl⟩
  have ne_b89_b101 : b89 ≠ b101 := Nat.ne_of_lt (Nat.lt_of_lt_of_le F99_0.lt (Nat.le_of_eq g101.symm))
  have ne_b99_b101 : b99 ≠ b101 := Nat.ne_of_lt (Nat.lt_of_lt_of_le A99.lt (Nat.le_of_eq g101.symm))
  have g_b101 : n0 ≤ b101 := Nat.le_trans Zs99 (Nat.le_of_eq g101.symm)
  have sz_b101 : h0.size ≤ b101 := Nat.le_trans K99.1 (Nat.le_of_eq g101.symm)
  rw [← g101] at A101 st101
  have F101_0 := F99_0.ext E101
  have F101_1 := A99.ext E101
  have F101_2 := F_start_b99.ext E101
  have F101_3 := F_rows_b99.ext E101
  have F101_4 := F_values_b99.ext E101
  have Zs101 : n0 ≤ h101.size := Nat.le_trans Zs99 E101.1
  have K101 := K99.ext E101
  have V_b101 : Arv Z h101 b101 k101 .int (0 : Int32) [] (.int (0 : Int32)) := (Arv.new A101 (by decide)).pad (pad_rep [] (.int (0 : Int32)) 0)
  have pre101 : ∀ t, Steps p.tables e below (T101.setTop (mkF m 70 #[.val (.int sv), .val (.int av), .val (.int bv), .val (.int cv), .val (.int (av &&& (1073741823 : Int32))), .val (.int (bv &&& (1073741823 : Int32))), .val (.int (cv &&& (1073741823 : Int32))), .val (.ref b89), .unset] [(.ref b101), (.ref b89), (.ref b99), (.ref b99)])) t → Steps p.tables e below (s₁.setTop (entryFrame m #[(.int sv), (.int av), (.int bv), (.int cv)] maxLocals)) t := fun t k => pre100 _ (st101 t k)
  have pre102 : ∀ t, Steps p.tables e below (T101.setTop (mkF m 71 #[.val (.int sv), .val (.int av), .val (.int bv), .val (.int cv), .val (.int (av &&& (1073741823 : Int32))), .val (.int (bv &&& (1073741823 : Int32))), .val (.int (cv &&& (1073741823 : Int32))), .val (.ref b89), .unset] [(.int (0 : Int32)), (.ref b101), (.ref b89), (.ref b99), (.ref b99)])) t → Steps p.tables e below (s₁.setTop (entryFrame m #[(.int sv), (.int av), (.int bv), (.int cv)] maxLocals)) t := fun t k => by
    refine pre101 _ ?_
    show Steps p.tables e below (T101.setTop (mkF m 70 #[.val (.int sv), .val (.int av), .val (.int bv), .val (.int cv), .val (.int (av &&& (1073741823 : Int32))), .val (.int (bv &&& (1073741823 : Int32))), .val (.int (cv &&& (1073741823 : Int32))), .val (.ref b89), .unset] [(.ref b101), (.ref b89), (.ref b99), (.ref b99)])) _
    refine XS.iconst X101.here hx rfl (hb hby at_70) ?_
    show Steps p.tables e below (T101.setTop (mkF m 71 #[.val (.int sv), .val (.int av), .val (.int bv), .val (.int cv), .val (.int (av &&& (1073741823 : Int32))), .val (.int (bv &&& (1073741823 : Int32))), .val (.int (cv &&& (1073741823 : Int32))), .val (.ref b89), .unset] [(.int (0 : Int32)), (.ref b101), (.ref b89), (.ref b99), (.ref b99)])) _
    exact k
  obtain ⟨T103, h103, k103, X103, e103, E103, A103, st103⟩ := newP X101 hx hZ (hw _ (List.mem_of_getElem? (i := 5) rfl)) e101 (g := (mkF m 71 #[.val (.int sv), .val (.int av), .val (.int bv), .val (.int cv), .val (.int (av &&& (1073741823 : Int32))), .val (.int (bv &&& (1073741823 : Int32))), .val (.int (cv &&& (1073741823 : Int32))), .val (.ref b89), .unset] [(.int (0 : Int32)), (.ref b101), (.ref b89), (.ref b99), (.ref b99)])) rfl (hb hby at_71) rfl (by decide) (cap := 0) (by decide) (by decide) (by decide) (by decide)
  obtain ⟨b103, g103⟩ : ∃ z, z = h101.size := ⟨_, rfl⟩
  have ne_b89_b103 : b89 ≠ b103 := Nat.ne_of_lt (Nat.lt_of_lt_of_le F101_0.lt (Nat.le_of_eq g103.symm))
  have ne_b99_b103 : b99 ≠ b103 := Nat.ne_of_lt (Nat.lt_of_lt_of_le F101_1.lt (Nat.le_of_eq g103.symm))
  have ne_b101_b103 : b101 ≠ b103 := Nat.ne_of_lt (Nat.lt_of_lt_of_le V_b101.lt (Nat.le_of_eq g103.symm))
  have g_b103 : n0 ≤ b103 := Nat.le_trans Zs101 (Nat.le_of_eq g103.symm)
  have sz_b103 : h0.size ≤ b103 := Nat.le_trans K101.1 (Nat.le_of_eq g103.symm)
  rw [← g103] at A103 st103
  have F103_0 := F101_0.ext E103
  have F103_1 := F101_1.ext E103
  have F103_2 := F101_2.ext E103
  have F103_3 := F101_3.ext E103
  have F103_4 := F101_4.ext E103
  have F103_5 := V_b101.ext E103
  have Zs103 : n0 ≤ h103.size := Nat.le_trans Zs101 E103.1
  have K103 := K101.ext E103
  have V_b103 : Arv Z h103 b103 k103 .double (0 : Int32) [] (.double (0 : UInt64)) := (Arv.new A103 (by decide)).pad (pad_rep [] (.double (0 : UInt64)) 0)
  have pre103 : ∀ t, Steps p.tables e below (T103.setTop (mkF m 73 #[.val (.int sv), .val (.int av), .val (.int bv), .val (.int cv), .val (.int (av &&& (1073741823 : Int32))), .val (.int (bv &&& (1073741823 : Int32))), .val (.int (cv &&& (1073741823 : Int32))), .val (.ref b89), .unset] [(.ref b103), (.ref b101), (.ref b89), (.ref b99), (.ref b99)])) t → Steps p.tables e below (s₁.setTop (entryFrame m #[(.int sv), (.int av), (.int bv), (.int cv)] maxLocals)) t := fun t k => pre102 _ (st103 t k)
  obtain ⟨_, _, ⟨T105, L105, k105, n105⟩, -, X105, ⟨Lc105, hQ105, l105, y105, z105⟩, st105⟩ := X103.specialBack hx (y := (⟨"com/example/tideway/tideway/LinearProgram$Columns", "<init>", "([I[I[D)V"⟩ : MethodName)) rfl hown (mvT hZ (hw _ (List.mem_of_getElem? (i := 6) rfl))) (mvT hZ (hw _ (List.mem_of_getElem? (i := 7) rfl))) (mvT hZ (hw _ (List.mem_of_getElem? (i := 8) rfl))) (by decide) (backOf (W := 1) (rm1 l Z aZ hw [] b99 b89 b101 b103  h103 n0 Zs103 F103_2 F103_3 F103_4 F103_1 g_b99) hZ (hw _ (List.mem_of_getElem? (i := 8) rfl)) (hw _ (List.mem_of_getElem? (i := 4) rfl)) (by decide) (by decide)) (g := (mkF m 73 #[.val (.int sv), .val (.int av), .val (.int bv), .val (.int cv), .val (.int (av &&& (1073741823 : Int32))), .val (.int (bv &&& (1073741823 : Int32))), .val (.int (cv &&& (1073741823 : Int32))), .val (.ref b89), .unset] [(.ref b103), (.ref b101), (.ref b89), (.ref b99), (.ref b99)])) rfl (by rw [hml]; rfl) (Steps.refl _) (a := b99) (argsL := [(.ref b89), (.ref b101), (.ref b103)]) (rest := [(.ref b99)]) (lenOf pd_0 rfl) rfl (by show 2 * 0 + _ ≤ _; exact Nat.le_of_eq rfl) (hb hby at_73) (fun _ _ => ⟨rfl, e103, (by decide : 4 + 0 ≤ _), (by decide : 7 + 0 ≤ _)⟩)
  dsimp only [Pt.U, Pt.locs, Pt.cells, Pt.slots] at X105 l105 y105 z105 st105 hQ105
  subst l105 y105 z105
  obtain ⟨rfl, N105q, Kc105, Ex105, Fc105_start, Fc105_rows, Fc105_values⟩ := hQ105
  have N105 := Fr.app N97 N105q
  have pre105 : ∀ t, Steps p.tables e below (T105.setTop (mkF m 76 #[.val (.int sv), .val (.int av), .val (.int bv), .val (.int cv), .val (.int (av &&& (1073741823 : Int32))), .val (.int (bv &&& (1073741823 : Int32))), .val (.int (cv &&& (1073741823 : Int32))), .val (.ref b89), .unset] [(.ref b99)])) t → Steps p.tables e below (s₁.setTop (entryFrame m #[(.int sv), (.int av), (.int bv), (.int cv)] maxLocals)) t := fun t k => pre103 _ (st105.trans k)
  have Zs105 : n0 ≤ T105.heap.size := Nat.le_trans Zs103 Kc105.1
  have F105_0 := F103_0.keep Kc105 (by intro q; simp only [List.mem_cons, List.not_mem_nil, or_false] at q; exact ne_b89_b99 q)
  have F105_1 := F103_1.keep Kc105
  have F105_2 := F103_5.keep Kc105 (by intro q; simp only [List.mem_cons, List.not_mem_nil, or_false] at q; exact (Ne.symm ne_b99_b101) q)
  have F105_3 := V_b103.keep Kc105 (by intro q; simp only [List.mem_cons, List.not_mem_nil, or_false] at q; exact (Ne.symm ne_b99_b103) q)
  have K105 := K103.trans Kc105 (by intro x hx; simp only [List.mem_cons, List.not_mem_nil, or_false] at hx; rcases hx with rfl <;> first | exact Or.inr sz_b99)
  have pre106 : ∀ t, Steps p.tables e below (T105.setTop (mkF m 81 #[.val (.int sv), .val (.int av), .val (.int bv), .val (.int cv), .val (.int (av &&& (1073741823 : Int32))), .val (.int (bv &&& (1073741823 : Int32))), .val (.int (cv &&& (1073741823 : Int32))), .val (.ref b89), .val (.ref b99)] [(.int (0 : Int32)), (.ref b99)])) t → Steps p.tables e below (s₁.setTop (entryFrame m #[(.int sv), (.int av), (.int bv), (.int cv)] maxLocals)) t := fun t k => by
    refine pre105 _ ?_
    show Steps p.tables e below (T105.setTop (mkF m 76 #[.val (.int sv), .val (.int av), .val (.int bv), .val (.int cv), .val (.int (av &&& (1073741823 : Int32))), .val (.int (bv &&& (1073741823 : Int32))), .val (.int (cv &&& (1073741823 : Int32))), .val (.ref b89), .unset] [(.ref b99)])) _
    refine XS.astore X105.here hx rfl (hb hby at_76) rfl rfl (l' := #[.val (.int sv), .val (.int av), .val (.int bv), .val (.int cv), .val (.int (av &&& (1073741823 : Int32))), .val (.int (bv &&& (1073741823 : Int32))), .val (.int (cv &&& (1073741823 : Int32))), .val (.ref b89), .val (.ref b99)]) rfl ?_
    show Steps p.tables e below (T105.setTop (mkF m 78 #[.val (.int sv), .val (.int av), .val (.int bv), .val (.int cv), .val (.int (av &&& (1073741823 : Int32))), .val (.int (bv &&& (1073741823 : Int32))), .val (.int (cv &&& (1073741823 : Int32))), .val (.ref b89), .val (.ref b99)] [])) _
    refine XS.aload X105.here hx rfl (hb hby at_78) rfl rfl ?_
    show Steps p.tables e below (T105.setTop (mkF m 80 #[.val (.int sv), .val (.int av), .val (.int bv), .val (.int cv), .val (.int (av &&& (1073741823 : Int32))), .val (.int (bv &&& (1073741823 : Int32))), .val (.int (cv &&& (1073741823 : Int32))), .val (.ref b89), .val (.ref b99)] [(.ref b99)])) _
    refine XS.iconst X105.here hx rfl (hb hby at_80) ?_
    show Steps p.tables e below (T105.setTop (mkF m 81 #[.val (.int sv), .val (.int av), .val (.int bv), .val (.int cv), .val (.int (av &&& (1073741823 : Int32))), .val (.int (bv &&& (1073741823 : Int32))), .val (.int (cv &&& (1073741823 : Int32))), .val (.ref b89), .val (.ref b99)] [(.int (0 : Int32)), (.ref b99)])) _
    exact k
  obtain ⟨cq107, kq107, q107a, q107b, q107c⟩ := isOf hZ rfl Ex105
  obtain ⟨_, _, ⟨T107, L107, k107, n107⟩, -, X107, ⟨Lc107, hQ107, l107, y107, z107⟩, st107⟩ := X105.virtualBack hx (y := (⟨"com/example/tideway/tideway/LinearProgram$Columns", "entries", "(I)I"⟩ : MethodName)) (z := (⟨"com/example/tideway/tideway/LinearProgram$Columns", "entries", "(I)I"⟩ : MethodName)) hown (mvT hZ (hw _ (List.mem_of_getElem? (i := 23) rfl))) (mvT hZ (hw _ (List.mem_of_getElem? (i := 24) rfl))) (notFace_of_selects (args := #[]) (mvT hZ (hw _ (List.mem_of_getElem? (i := 26) rfl)))) (mvT hZ (hw _ (List.mem_of_getElem? (i := 26) rfl))) (mvT hZ (hw _ (List.mem_of_getElem? (i := 25) rfl))) (by decide) (backOf (W := 0) (rm4_0 l Z aZ hw [] b99 b89 k89 sv (sv + (av &&& (1073741823 : Int32))) ((sv + (av &&& (1073741823 : Int32))) + (bv &&& (1073741823 : Int32))) (((sv + (av &&& (1073741823 : Int32))) + (bv &&& (1073741823 : Int32))) + (cv &&& (1073741823 : Int32))) T105.heap n0 Zs105 Fc105_start F105_0) hZ (hw _ (List.mem_of_getElem? (i := 27) rfl)) (hw _ (List.mem_of_getElem? (i := 4) rfl)) (by decide) (by decide)) q107a q107c (g := (mkF m 81 #[.val (.int sv), .val (.int av), .val (.int bv), .val (.int cv), .val (.int (av &&& (1073741823 : Int32))), .val (.int (bv &&& (1073741823 : Int32))), .val (.int (cv &&& (1073741823 : Int32))), .val (.ref b89), .val (.ref b99)] [(.int (0 : Int32)), (.ref b99)])) rfl (by rw [hml]; rfl) (Steps.refl _) (argsL := [(.int (0 : Int32))]) (rest := []) (lenOf pd_2 rfl) rfl (by show 2 * 0 + _ ≤ _; exact Nat.le_of_eq rfl) (hb hby at_81) (fun _ _ => ⟨rfl, rfl, (by decide : 4 + 0 ≤ _), (by decide : 7 + 0 ≤ _)⟩)
  dsimp only [Pt.U, Pt.locs, Pt.cells, Pt.slots] at X107 l107 y107 z107 st107 hQ107
  subst l107 y107 z107
  obtain ⟨rfl, N107q, e107⟩ := hQ107
  have N107 := Fr.app N105 N107q
  have pre107 : ∀ t, Steps p.tables e below (T107.setTop (mkF m 84 #[.val (.int sv), .val (.int av), .val (.int bv), .val (.int cv), .val (.int (av &&& (1073741823 : Int32))), .val (.int (bv &&& (1073741823 : Int32))), .val (.int (cv &&& (1073741823 : Int32))), .val (.ref b89), .val (.ref b99)] [(.int (f4_0 sv (sv + (av &&& (1073741823 : Int32)))))])) t → Steps p.tables e below (s₁.setTop (entryFrame m #[(.int sv), (.int av), (.int bv), (.int cv)] maxLocals)) t := fun t k => pre106 _ (st107.trans k)
  have pre108 : ∀ t, Steps p.tables e below (T107.setTop (mkF m 86 #[.val (.int sv), .val (.int av), .val (.int bv), .val (.int cv), .val (.int (av &&& (1073741823 : Int32))), .val (.int (bv &&& (1073741823 : Int32))), .val (.int (cv &&& (1073741823 : Int32))), .val (.ref b89), .val (.ref b99)] [(.int (av &&& (1073741823 : Int32))), (.int (f4_0 sv (sv + (av &&& (1073741823 : Int32)))))])) t → Steps p.tables e below (s₁.setTop (entryFrame m #[(.int sv), (.int av), (.int bv), (.int cv)] maxLocals)) t := fun t k => by
    refine pre107 _ ?_
    show Steps p.tables e below (T107.setTop (mkF m 84 #[.val (.int sv), .val (.int av), .val (.int bv), .val (.int cv), .val (.int (av &&& (1073741823 : Int32))), .val (.int (bv &&& (1073741823 : Int32))), .val (.int (cv &&& (1073741823 : Int32))), .val (.ref b89), .val (.ref b99)] [(.int (f4_0 sv (sv + (av &&& (1073741823 : Int32)))))])) _
    refine XS.iload X107.here hx rfl (hb hby at_84) rfl ?_
    show Steps p.tables e below (T107.setTop (mkF m 86 #[.val (.int sv), .val (.int av), .val (.int bv), .val (.int cv), .val (.int (av &&& (1073741823 : Int32))), .val (.int (bv &&& (1073741823 : Int32))), .val (.int (cv &&& (1073741823 : Int32))), .val (.ref b89), .val (.ref b99)] [(.int (av &&& (1073741823 : Int32))), (.int (f4_0 sv (sv + (av &&& (1073741823 : Int32)))))])) _
    exact k
  have pre109 : ∀ t, Steps p.tables e below (T107.setTop (mkF m 89 #[.val (.int sv), .val (.int av), .val (.int bv), .val (.int cv), .val (.int (av &&& (1073741823 : Int32))), .val (.int (bv &&& (1073741823 : Int32))), .val (.int (cv &&& (1073741823 : Int32))), .val (.ref b89), .val (.ref b99)] [])) t → Steps p.tables e below (s₁.setTop (entryFrame m #[(.int sv), (.int av), (.int bv), (.int cv)] maxLocals)) t := fun t k => by
    refine pre108 _ ?_
    show Steps p.tables e below (T107.setTop (mkF m 86 #[.val (.int sv), .val (.int av), .val (.int bv), .val (.int cv), .val (.int (av &&& (1073741823 : Int32))), .val (.int (bv &&& (1073741823 : Int32))), .val (.int (cv &&& (1073741823 : Int32))), .val (.ref b89), .val (.ref b99)] [(.int (av &&& (1073741823 : Int32))), (.int (f4_0 sv (sv + (av &&& (1073741823 : Int32)))))])) _
    refine XS.icmpNo X107.here hx rfl (hb hby at_86) rfl (teq (own_sub _ _)).2 ?_
    show Steps p.tables e below (T107.setTop (mkF m 89 #[.val (.int sv), .val (.int av), .val (.int bv), .val (.int cv), .val (.int (av &&& (1073741823 : Int32))), .val (.int (bv &&& (1073741823 : Int32))), .val (.int (cv &&& (1073741823 : Int32))), .val (.ref b89), .val (.ref b99)] [])) _
    exact k
  have pre110 : ∀ t, Steps p.tables e below (T107.setTop (mkF m 92 #[.val (.int sv), .val (.int av), .val (.int bv), .val (.int cv), .val (.int (av &&& (1073741823 : Int32))), .val (.int (bv &&& (1073741823 : Int32))), .val (.int (cv &&& (1073741823 : Int32))), .val (.ref b89), .val (.ref b99)] [(.int (1 : Int32)), (.ref b99)])) t → Steps p.tables e below (s₁.setTop (entryFrame m #[(.int sv), (.int av), (.int bv), (.int cv)] maxLocals)) t := fun t k => by
    refine pre109 _ ?_
    show Steps p.tables e below (T107.setTop (mkF m 89 #[.val (.int sv), .val (.int av), .val (.int bv), .val (.int cv), .val (.int (av &&& (1073741823 : Int32))), .val (.int (bv &&& (1073741823 : Int32))), .val (.int (cv &&& (1073741823 : Int32))), .val (.ref b89), .val (.ref b99)] [])) _
    refine XS.aload X107.here hx rfl (hb hby at_89) rfl rfl ?_
    show Steps p.tables e below (T107.setTop (mkF m 91 #[.val (.int sv), .val (.int av), .val (.int bv), .val (.int cv), .val (.int (av &&& (1073741823 : Int32))), .val (.int (bv &&& (1073741823 : Int32))), .val (.int (cv &&& (1073741823 : Int32))), .val (.ref b89), .val (.ref b99)] [(.ref b99)])) _
    refine XS.iconst X107.here hx rfl (hb hby at_91) ?_
    show Steps p.tables e below (T107.setTop (mkF m 92 #[.val (.int sv), .val (.int av), .val (.int bv), .val (.int cv), .val (.int (av &&& (1073741823 : Int32))), .val (.int (bv &&& (1073741823 : Int32))), .val (.int (cv &&& (1073741823 : Int32))), .val (.ref b89), .val (.ref b99)] [(.int (1 : Int32)), (.ref b99)])) _
    exact k
  obtain ⟨cq111, kq111, q111a, q111b, q111c⟩ := isOf hZ e107 Ex105
  obtain ⟨_, _, ⟨T111, L111, k111, n111⟩, -, X111, ⟨Lc111, hQ111, l111, y111, z111⟩, st111⟩ := X107.virtualBack hx (y := (⟨"com/example/tideway/tideway/LinearProgram$Columns", "entries", "(I)I"⟩ : MethodName)) (z := (⟨"com/example/tideway/tideway/LinearProgram$Columns", "entries", "(I)I"⟩ : MethodName)) hown (mvT hZ (hw _ (List.mem_of_getElem? (i := 23) rfl))) (mvT hZ (hw _ (List.mem_of_getElem? (i := 24) rfl))) (notFace_of_selects (args := #[]) (mvT hZ (hw _ (List.mem_of_getElem? (i := 26) rfl)))) (mvT hZ (hw _ (List.mem_of_getElem? (i := 26) rfl))) (mvT hZ (hw _ (List.mem_of_getElem? (i := 25) rfl))) (by decide) (backOf (W := 0) (rm4_1 l Z aZ hw [] b99 b89 k89 sv (sv + (av &&& (1073741823 : Int32))) ((sv + (av &&& (1073741823 : Int32))) + (bv &&& (1073741823 : Int32))) (((sv + (av &&& (1073741823 : Int32))) + (bv &&& (1073741823 : Int32))) + (cv &&& (1073741823 : Int32))) T105.heap n0 Zs105 Fc105_start F105_0) hZ (hw _ (List.mem_of_getElem? (i := 27) rfl)) (hw _ (List.mem_of_getElem? (i := 4) rfl)) (by decide) (by decide)) q111a q111c (g := (mkF m 92 #[.val (.int sv), .val (.int av), .val (.int bv), .val (.int cv), .val (.int (av &&& (1073741823 : Int32))), .val (.int (bv &&& (1073741823 : Int32))), .val (.int (cv &&& (1073741823 : Int32))), .val (.ref b89), .val (.ref b99)] [(.int (1 : Int32)), (.ref b99)])) rfl (by rw [hml]; rfl) (Steps.refl _) (argsL := [(.int (1 : Int32))]) (rest := []) (lenOf pd_2 rfl) rfl (by show 2 * 0 + _ ≤ _; exact Nat.le_of_eq rfl) (hb hby at_92) (fun _ _ => ⟨rfl, e107, (by decide : 4 + 0 ≤ _), (by decide : 7 + 0 ≤ _)⟩)
  dsimp only [Pt.U, Pt.locs, Pt.cells, Pt.slots] at X111 l111 y111 z111 st111 hQ111
  subst l111 y111 z111
  obtain ⟨rfl, N111q, e111⟩ := hQ111
  have N111 := Fr.app N107 N111q
  have pre111 : ∀ t, Steps p.tables e below (T111.setTop (mkF m 95 #[.val (.int sv), .val (.int av), .val (.int bv), .val (.int cv), .val (.int (av &&& (1073741823 : Int32))), .val (.int (bv &&& (1073741823 : Int32))), .val (.int (cv &&& (1073741823 : Int32))), .val (.ref b89), .val (.ref b99)] [(.int (f4_1 (sv + (av &&& (1073741823 : Int32))) ((sv + (av &&& (1073741823 : Int32))) + (bv &&& (1073741823 : Int32)))))])) t → Steps p.tables e below (s₁.setTop (entryFrame m #[(.int sv), (.int av), (.int bv), (.int cv)] maxLocals)) t := fun t k => pre110 _ (st111.trans k)
  have pre112 : ∀ t, Steps p.tables e below (T111.setTop (mkF m 97 #[.val (.int sv), .val (.int av), .val (.int bv), .val (.int cv), .val (.int (av &&& (1073741823 : Int32))), .val (.int (bv &&& (1073741823 : Int32))), .val (.int (cv &&& (1073741823 : Int32))), .val (.ref b89), .val (.ref b99)] [(.int (bv &&& (1073741823 : Int32))), (.int (f4_1 (sv + (av &&& (1073741823 : Int32))) ((sv + (av &&& (1073741823 : Int32))) + (bv &&& (1073741823 : Int32)))))])) t → Steps p.tables e below (s₁.setTop (entryFrame m #[(.int sv), (.int av), (.int bv), (.int cv)] maxLocals)) t := fun t k => by
    refine pre111 _ ?_
    show Steps p.tables e below (T111.setTop (mkF m 95 #[.val (.int sv), .val (.int av), .val (.int bv), .val (.int cv), .val (.int (av &&& (1073741823 : Int32))), .val (.int (bv &&& (1073741823 : Int32))), .val (.int (cv &&& (1073741823 : Int32))), .val (.ref b89), .val (.ref b99)] [(.int (f4_1 (sv + (av &&& (1073741823 : Int32))) ((sv + (av &&& (1073741823 : Int32))) + (bv &&& (1073741823 : Int32)))))])) _
    refine XS.iload X111.here hx rfl (hb hby at_95) rfl ?_
    show Steps p.tables e below (T111.setTop (mkF m 97 #[.val (.int sv), .val (.int av), .val (.int bv), .val (.int cv), .val (.int (av &&& (1073741823 : Int32))), .val (.int (bv &&& (1073741823 : Int32))), .val (.int (cv &&& (1073741823 : Int32))), .val (.ref b89), .val (.ref b99)] [(.int (bv &&& (1073741823 : Int32))), (.int (f4_1 (sv + (av &&& (1073741823 : Int32))) ((sv + (av &&& (1073741823 : Int32))) + (bv &&& (1073741823 : Int32)))))])) _
    exact k
  have pre113 : ∀ t, Steps p.tables e below (T111.setTop (mkF m 100 #[.val (.int sv), .val (.int av), .val (.int bv), .val (.int cv), .val (.int (av &&& (1073741823 : Int32))), .val (.int (bv &&& (1073741823 : Int32))), .val (.int (cv &&& (1073741823 : Int32))), .val (.ref b89), .val (.ref b99)] [])) t → Steps p.tables e below (s₁.setTop (entryFrame m #[(.int sv), (.int av), (.int bv), (.int cv)] maxLocals)) t := fun t k => by
    refine pre112 _ ?_
    show Steps p.tables e below (T111.setTop (mkF m 97 #[.val (.int sv), .val (.int av), .val (.int bv), .val (.int cv), .val (.int (av &&& (1073741823 : Int32))), .val (.int (bv &&& (1073741823 : Int32))), .val (.int (cv &&& (1073741823 : Int32))), .val (.ref b89), .val (.ref b99)] [(.int (bv &&& (1073741823 : Int32))), (.int (f4_1 (sv + (av &&& (1073741823 : Int32))) ((sv + (av &&& (1073741823 : Int32))) + (bv &&& (1073741823 : Int32)))))])) _
    refine XS.icmpNo X111.here hx rfl (hb hby at_97) rfl (teq (own_sub _ _)).2 ?_
    show Steps p.tables e below (T111.setTop (mkF m 100 #[.val (.int sv), .val (.int av), .val (.int bv), .val (.int cv), .val (.int (av &&& (1073741823 : Int32))), .val (.int (bv &&& (1073741823 : Int32))), .val (.int (cv &&& (1073741823 : Int32))), .val (.ref b89), .val (.ref b99)] [])) _
    exact k
  have pre114 : ∀ t, Steps p.tables e below (T111.setTop (mkF m 103 #[.val (.int sv), .val (.int av), .val (.int bv), .val (.int cv), .val (.int (av &&& (1073741823 : Int32))), .val (.int (bv &&& (1073741823 : Int32))), .val (.int (cv &&& (1073741823 : Int32))), .val (.ref b89), .val (.ref b99)] [(.int (2 : Int32)), (.ref b99)])) t → Steps p.tables e below (s₁.setTop (entryFrame m #[(.int sv), (.int av), (.int bv), (.int cv)] maxLocals)) t := fun t k => by
    refine pre113 _ ?_
    show Steps p.tables e below (T111.setTop (mkF m 100 #[.val (.int sv), .val (.int av), .val (.int bv), .val (.int cv), .val (.int (av &&& (1073741823 : Int32))), .val (.int (bv &&& (1073741823 : Int32))), .val (.int (cv &&& (1073741823 : Int32))), .val (.ref b89), .val (.ref b99)] [])) _
    refine XS.aload X111.here hx rfl (hb hby at_100) rfl rfl ?_
    show Steps p.tables e below (T111.setTop (mkF m 102 #[.val (.int sv), .val (.int av), .val (.int bv), .val (.int cv), .val (.int (av &&& (1073741823 : Int32))), .val (.int (bv &&& (1073741823 : Int32))), .val (.int (cv &&& (1073741823 : Int32))), .val (.ref b89), .val (.ref b99)] [(.ref b99)])) _
    refine XS.iconst X111.here hx rfl (hb hby at_102) ?_
    show Steps p.tables e below (T111.setTop (mkF m 103 #[.val (.int sv), .val (.int av), .val (.int bv), .val (.int cv), .val (.int (av &&& (1073741823 : Int32))), .val (.int (bv &&& (1073741823 : Int32))), .val (.int (cv &&& (1073741823 : Int32))), .val (.ref b89), .val (.ref b99)] [(.int (2 : Int32)), (.ref b99)])) _
    exact k
  obtain ⟨cq115, kq115, q115a, q115b, q115c⟩ := isOf hZ e111 Ex105
  obtain ⟨_, _, ⟨T115, L115, k115, n115⟩, -, X115, ⟨Lc115, hQ115, l115, y115, z115⟩, st115⟩ := X111.virtualBack hx (y := (⟨"com/example/tideway/tideway/LinearProgram$Columns", "entries", "(I)I"⟩ : MethodName)) (z := (⟨"com/example/tideway/tideway/LinearProgram$Columns", "entries", "(I)I"⟩ : MethodName)) hown (mvT hZ (hw _ (List.mem_of_getElem? (i := 23) rfl))) (mvT hZ (hw _ (List.mem_of_getElem? (i := 24) rfl))) (notFace_of_selects (args := #[]) (mvT hZ (hw _ (List.mem_of_getElem? (i := 26) rfl)))) (mvT hZ (hw _ (List.mem_of_getElem? (i := 26) rfl))) (mvT hZ (hw _ (List.mem_of_getElem? (i := 25) rfl))) (by decide) (backOf (W := 0) (rm4_2 l Z aZ hw [] b99 b89 k89 sv (sv + (av &&& (1073741823 : Int32))) ((sv + (av &&& (1073741823 : Int32))) + (bv &&& (1073741823 : Int32))) (((sv + (av &&& (1073741823 : Int32))) + (bv &&& (1073741823 : Int32))) + (cv &&& (1073741823 : Int32))) T105.heap n0 Zs105 Fc105_start F105_0) hZ (hw _ (List.mem_of_getElem? (i := 27) rfl)) (hw _ (List.mem_of_getElem? (i := 4) rfl)) (by decide) (by decide)) q115a q115c (g := (mkF m 103 #[.val (.int sv), .val (.int av), .val (.int bv), .val (.int cv), .val (.int (av &&& (1073741823 : Int32))), .val (.int (bv &&& (1073741823 : Int32))), .val (.int (cv &&& (1073741823 : Int32))), .val (.ref b89), .val (.ref b99)] [(.int (2 : Int32)), (.ref b99)])) rfl (by rw [hml]; rfl) (Steps.refl _) (argsL := [(.int (2 : Int32))]) (rest := []) (lenOf pd_2 rfl) rfl (by show 2 * 0 + _ ≤ _; exact Nat.le_of_eq rfl) (hb hby at_103) (fun _ _ => ⟨rfl, e111, (by decide : 4 + 0 ≤ _), (by decide : 7 + 0 ≤ _)⟩)
  dsimp only [Pt.U, Pt.locs, Pt.cells, Pt.slots] at X115 l115 y115 z115 st115 hQ115
  subst l115 y115 z115
  obtain ⟨rfl, N115q, e115⟩ := hQ115
  have N115 := Fr.app N111 N115q
  have pre115 : ∀ t, Steps p.tables e below (T115.setTop (mkF m 106 #[.val (.int sv), .val (.int av), .val (.int bv), .val (.int cv), .val (.int (av &&& (1073741823 : Int32))), .val (.int (bv &&& (1073741823 : Int32))), .val (.int (cv &&& (1073741823 : Int32))), .val (.ref b89), .val (.ref b99)] [(.int (f4_2 ((sv + (av &&& (1073741823 : Int32))) + (bv &&& (1073741823 : Int32))) (((sv + (av &&& (1073741823 : Int32))) + (bv &&& (1073741823 : Int32))) + (cv &&& (1073741823 : Int32)))))])) t → Steps p.tables e below (s₁.setTop (entryFrame m #[(.int sv), (.int av), (.int bv), (.int cv)] maxLocals)) t := fun t k => pre114 _ (st115.trans k)
  have pre116 : ∀ t, Steps p.tables e below (T115.setTop (mkF m 108 #[.val (.int sv), .val (.int av), .val (.int bv), .val (.int cv), .val (.int (av &&& (1073741823 : Int32))), .val (.int (bv &&& (1073741823 : Int32))), .val (.int (cv &&& (1073741823 : Int32))), .val (.ref b89), .val (.ref b99)] [(.int (cv &&& (1073741823 : Int32))), (.int (f4_2 ((sv + (av &&& (1073741823 : Int32))) + (bv &&& (1073741823 : Int32))) (((sv + (av &&& (1073741823 : Int32))) + (bv &&& (1073741823 : Int32))) + (cv &&& (1073741823 : Int32)))))])) t → Steps p.tables e below (s₁.setTop (entryFrame m #[(.int sv), (.int av), (.int bv), (.int cv)] maxLocals)) t := fun t k => by
    refine pre115 _ ?_
    show Steps p.tables e below (T115.setTop (mkF m 106 #[.val (.int sv), .val (.int av), .val (.int bv), .val (.int cv), .val (.int (av &&& (1073741823 : Int32))), .val (.int (bv &&& (1073741823 : Int32))), .val (.int (cv &&& (1073741823 : Int32))), .val (.ref b89), .val (.ref b99)] [(.int (f4_2 ((sv + (av &&& (1073741823 : Int32))) + (bv &&& (1073741823 : Int32))) (((sv + (av &&& (1073741823 : Int32))) + (bv &&& (1073741823 : Int32))) + (cv &&& (1073741823 : Int32)))))])) _
    refine XS.iload X115.here hx rfl (hb hby at_106) rfl ?_
    show Steps p.tables e below (T115.setTop (mkF m 108 #[.val (.int sv), .val (.int av), .val (.int bv), .val (.int cv), .val (.int (av &&& (1073741823 : Int32))), .val (.int (bv &&& (1073741823 : Int32))), .val (.int (cv &&& (1073741823 : Int32))), .val (.ref b89), .val (.ref b99)] [(.int (cv &&& (1073741823 : Int32))), (.int (f4_2 ((sv + (av &&& (1073741823 : Int32))) + (bv &&& (1073741823 : Int32))) (((sv + (av &&& (1073741823 : Int32))) + (bv &&& (1073741823 : Int32))) + (cv &&& (1073741823 : Int32)))))])) _
    exact k
  have pre117 : ∀ t, Steps p.tables e below (T115.setTop (mkF m 111 #[.val (.int sv), .val (.int av), .val (.int bv), .val (.int cv), .val (.int (av &&& (1073741823 : Int32))), .val (.int (bv &&& (1073741823 : Int32))), .val (.int (cv &&& (1073741823 : Int32))), .val (.ref b89), .val (.ref b99)] [])) t → Steps p.tables e below (s₁.setTop (entryFrame m #[(.int sv), (.int av), (.int bv), (.int cv)] maxLocals)) t := fun t k => by
    refine pre116 _ ?_
    show Steps p.tables e below (T115.setTop (mkF m 108 #[.val (.int sv), .val (.int av), .val (.int bv), .val (.int cv), .val (.int (av &&& (1073741823 : Int32))), .val (.int (bv &&& (1073741823 : Int32))), .val (.int (cv &&& (1073741823 : Int32))), .val (.ref b89), .val (.ref b99)] [(.int (cv &&& (1073741823 : Int32))), (.int (f4_2 ((sv + (av &&& (1073741823 : Int32))) + (bv &&& (1073741823 : Int32))) (((sv + (av &&& (1073741823 : Int32))) + (bv &&& (1073741823 : Int32))) + (cv &&& (1073741823 : Int32)))))])) _
    refine XS.icmpNo X115.here hx rfl (hb hby at_108) rfl (teq (own_sub _ _)).2 ?_
    show Steps p.tables e below (T115.setTop (mkF m 111 #[.val (.int sv), .val (.int av), .val (.int bv), .val (.int cv), .val (.int (av &&& (1073741823 : Int32))), .val (.int (bv &&& (1073741823 : Int32))), .val (.int (cv &&& (1073741823 : Int32))), .val (.ref b89), .val (.ref b99)] [])) _
    exact k
  have pre118 : ∀ t, Steps p.tables e below (T115.setTop (mkF m 116 #[.val (.int sv), .val (.int av), .val (.int bv), .val (.int cv), .val (.int (av &&& (1073741823 : Int32))), .val (.int (bv &&& (1073741823 : Int32))), .val (.int (cv &&& (1073741823 : Int32))), .val (.ref b89), .val (.ref b99)] [(.int (1 : Int32))])) t → Steps p.tables e below (s₁.setTop (entryFrame m #[(.int sv), (.int av), (.int bv), (.int cv)] maxLocals)) t := fun t k => by
    refine pre117 _ ?_
    show Steps p.tables e below (T115.setTop (mkF m 111 #[.val (.int sv), .val (.int av), .val (.int bv), .val (.int cv), .val (.int (av &&& (1073741823 : Int32))), .val (.int (bv &&& (1073741823 : Int32))), .val (.int (cv &&& (1073741823 : Int32))), .val (.ref b89), .val (.ref b99)] [])) _
    refine XS.iconst X115.here hx rfl (hb hby at_111) ?_
    show Steps p.tables e below (T115.setTop (mkF m 112 #[.val (.int sv), .val (.int av), .val (.int bv), .val (.int cv), .val (.int (av &&& (1073741823 : Int32))), .val (.int (bv &&& (1073741823 : Int32))), .val (.int (cv &&& (1073741823 : Int32))), .val (.ref b89), .val (.ref b99)] [(.int (1 : Int32))])) _
    refine XS.goto X115.here hx rfl (pc0 := 112) (pc' := 116) rfl (hb hby at_112) (by decide) (by decide) ?_
    show Steps p.tables e below (T115.setTop (mkF m 116 #[.val (.int sv), .val (.int av), .val (.int bv), .val (.int cv), .val (.int (av &&& (1073741823 : Int32))), .val (.int (bv &&& (1073741823 : Int32))), .val (.int (cv &&& (1073741823 : Int32))), .val (.ref b89), .val (.ref b99)] [(.int (1 : Int32))])) _
    exact k
  obtain ⟨fs, hr, hrun, hended, hW, hsame⟩ := X115.leave (v := some (.int (1 : Int32))) (fun h => by rw [Bd.returns] at h; cases h)
  refine ⟨_, _, pre118 _ ?_, hrun, hended, _, _, rfl, ?_, ⟨_, rfl⟩, hW, hsame.mono (by decide) (by decide)⟩
  · show Steps p.tables e below (T115.setTop (mkF m 116 #[.val (.int sv), .val (.int av), .val (.int bv), .val (.int cv), .val (.int (av &&& (1073741823 : Int32))), .val (.int (bv &&& (1073741823 : Int32))), .val (.int (cv &&& (1073741823 : Int32))), .val (.ref b89), .val (.ref b99)] [(.int (1 : Int32))])) _
    exact retN X115 hx (t := .boolean) Bd.returns (by simp) (hb hby at_116) hr
  · show Q0 sv av bv cv h0 n0 _ T115.heap _
    exact ⟨rfl, N115⟩
set_option maxRecDepth 65536 in
set_option maxHeartbeats 40000000 in
theorem comes_1 {Post : Tables → Env → Array Value → State → Outcome → State → Prop} (hpost : ∀ tb e args s v u, (limb_1_1.after args s (.returned v) u = true ∧ limb_1_2.after args s (.returned v) u = true ∧ True) → FrameEnd s (.returned v) u (Jvm.fieldLocs frame_1_writes args s ++ Jvm.arrayLocs frame_1_arrays args s ++ Jvm.staticLocs frame_1_statics s) 16 128 → Post tb e args s (.returned v) u) :
    ArmFor flags0 classFile x code maxLocals ret World_1 tables_1 room_1 Calls_1 rest_1 Pre_1 Post := by
  intro l hfl _ _ p e ha hc hk s m args below hf hA hF happ hP
  obtain ⟨hcalls, hrest, hpre⟩ := hP
  obtain ⟨-, -, -, hnamed, -, -, -, hat⟩ := (Spec.applies_iff hf).mp happ
  obtain ⟨hg, hn⟩ := and_e (Cond.before_iff.mp (show (Jvm.Cond.and given_1 narrow_1).before args s = true from hpre))
  obtain ⟨ga0, gb0⟩ := and_e hg
  obtain ⟨ga1, gb1⟩ := and_e gb0
  obtain ⟨ga2, gb2⟩ := and_e gb1
  obtain ⟨ga3, gb3⟩ := and_e gb2
  obtain ⟨w0, w1, w2, w3, rfl⟩ : ∃ w0 w1 w2 w3 : Value, args = #[w0, w1, w2, w3] := by
    have hs : args.size = 4 := by simpa [Cond.value, given_1] using ga0
    obtain ⟨L⟩ := args
    match L, hs with
    | [w0, w1, w2, w3], _ => exact ⟨w0, w1, w2, w3, rfl⟩
  have hw := fun d (hd : d ∈ tables_1) => atoms_spec (ws := Jvm.Cond.code x code maxLocals ret :: tables_1) hat d (List.mem_cons_of_mem _ hd)
  have hfit : Fit s := fun {y c} hc i hi => by
    obtain ⟨ha, rfl⟩ := Array.getElem?_eq_some_iff.mp hc
    have q := List.all_eq_true.mp ((Array.all_eq_true_iff_forall_mem.mp hF) _ (Array.getElem_mem ha)) i (List.mem_range.mpr hi)
    simpa [Array.getElem?_eq_getElem hi] using q
  obtain ⟨i0, ei0⟩ := is_v ga1
  obtain rfl : w0 = (.int i0) := Option.some.inj ei0
  obtain ⟨i1, ei1⟩ := is_v ga2
  obtain rfl : w1 = (.int i1) := Option.some.inj ei1
  obtain ⟨i2, ei2⟩ := is_v ga3
  obtain rfl : w2 = (.int i2) := Option.some.inj ei2
  obtain ⟨i3, ei3⟩ := is_v gb3
  obtain rfl : w3 = (.int i3) := Option.some.inj ei3
  obtain ⟨n, o, h1, h2, h3, _, L, rfl, ⟨rfl, N⟩, hq⟩ := rm0 l s _ hw tables_1 i0 i1 i2 i3  s.heap s.heap.size (Nat.le_refl _)  p e ha hc hk s m _ below hf ((Spec.applies_iff_loose hf).mp happ).1 ⟨rfl, State.Warmed39.refl s, rfl⟩ trivial
  refine ⟨n, _, h1, h2, h3, hpost _ _ _ _ _ _ ⟨Cond.after_iff.mpr rfl, Cond.after_iff.mpr (eq_i res_at (Term.int_eval (1)) rfl), trivial⟩ ⟨hq.1, hq.2.1, (hq.2.2.sift fun y hy => Or.inr (N y hy)).mono (by decide) (by decide)⟩⟩
theorem main_1_1 : Claimed_1_1 := comes_1 fun _ _ _ _ _ _ h hF => ⟨h.1, hF⟩
theorem main_1_2 : Claimed_1_2 := comes_1 fun _ _ _ _ _ _ h hF => ⟨h.2.1, hF⟩
end Jvm.Pilot.@@N@@
namespace Jvm.Pilot.@@N@@
open Jvm Jvm.ClassFile Sem Op Lib Jvm.Free Jvm.Stand Jvm.Pilot.@@N@@.Jvm.D
/-! MADE BY PROGRAM (witnessworld.py) out of the Statement's table words and the real class files: 10 classes; the members and pool entries that the words name. The judged class is class 1, her method 1. -/
namespace start1
open Jvm.ClassFile
def u (s : String) : CpInfo := .utf8 (stringToUtf16 s)
/-- a pool by its gaps: so many unusable entries, then the entry; so many at the end -/
def gap : Nat → List CpInfo → List CpInfo
  | 0, r => r
  | n + 1, r => .unusable :: gap n r
def poolList (es : List (Nat × CpInfo)) (last : Nat) : List CpInfo := es.foldr (fun e r => gap e.1 (e.2 :: r)) (gap last [])
def pool (es : List (Nat × CpInfo)) (last : Nat) : Array CpInfo := ⟨poolList es last⟩
def fileOf (pool : Array CpInfo) (this : Nat) (attrs : Array Attribute := #[]) (ms : Array MethodInfo := #[]) (fl : Nat := 33) (sup : Nat := 0) (ifs : Array Nat := #[]) (fds : Array FieldInfo := #[]) : ClassFile where
  minorVersion := 0
  majorVersion := 65
  constantPool := pool
  accessFlags := fl
  thisClass := this
  superClass := sup
  interfaces := ifs
  fields := fds
  methods := ms
  attributes := attrs
def plain (name : String) (sup : Option ClassId) : Class where
  name := name
  kind := .ordinary
  loader := none
  accessFlags := 33
  super := sup
  interfaces := #[]
  cf := none
  fields := #[]
  methods := #[]
  instanceTypes := #[]
  staticTypes := #[]
  resolved := #[]
  callSites := []
  init := .initialized
  statics := none
  mirror := none

def pool0 : Array CpInfo := pool [(5, u "<init>"), (0, u "()V"), (1, .class_ 10), (1, u "java/lang/Object")] 113

def k0c0 : Code := { maxStack := 0, maxLocals := 1, code := object_method_1_code, exceptionTable := #[], attributes := #[] }
def k0m0 : Method := { name := "<init>", desc := "()V", sig := { parameters := [], returnType := none }, accessFlags := 1, code := some k0c0 }
/-- java/lang/Object -/
def k0 : Class := { plain "java/lang/Object" none with
  accessFlags := 33
  interfaces := #[]
  cf := some (fileOf pool0 8 #[] #[{ accessFlags := 1, nameIndex := 5, descriptorIndex := 6, attributes := #[] }] 33 0 #[] #[])
  fields := #[]
  methods := #[k0m0]
  instanceTypes := #[]
  staticTypes := #[]
  resolved := Array.replicate 124 none
  statics := none }

def pool1 : Array CpInfo := pool [(2, .class_ 4), (1, u "java/lang/Object"), (0, u "<init>"), (0, u "()V"), (0, .integer 1073741823), (0, .class_ 9), (0, u "com/example/tideway/tideway/LinearProgram$Columns"), (0, .methodref 8 11), (0, .nameAndType 5 12), (0, u "([I[I[D)V"), (0, .methodref 8 14), (0, .nameAndType 15 16), (0, u "entries"), (0, u "(I)I"), (0, .class_ 18), (0, u "com/example/tideway/tideway/ColumnsEntriesPinLaw"), (2, u "law"), (0, u "(IIII)Z")] 9

def k1m0 : Method := { name := "<init>", desc := "()V", sig := { parameters := [], returnType := none }, accessFlags := 2, code := none }
def k1c1 : Code := { maxStack := 5, maxLocals := 9, code := code, exceptionTable := #[], attributes := #[] }
def k1m1 : Method := { name := "law", desc := "(IIII)Z", sig := { parameters := [.int, .int, .int, .int], returnType := some .boolean }, accessFlags := 9, code := some k1c1 }
/-- com/example/tideway/tideway/ColumnsEntriesPinLaw -/
def k1 : Class := { plain "com/example/tideway/tideway/ColumnsEntriesPinLaw" (some 0) with
  accessFlags := 49
  interfaces := #[]
  cf := some (fileOf pool1 17 #[] #[{ accessFlags := 2, nameIndex := 5, descriptorIndex := 6, attributes := #[] }, { accessFlags := 9, nameIndex := 21, descriptorIndex := 22, attributes := #[] }] 49 2 #[] #[])
  fields := #[]
  methods := #[k1m0, k1m1]
  instanceTypes := #[]
  staticTypes := #[]
  resolved := Array.replicate 32 none
  statics := none }

def pool2 : Array CpInfo := pool [(1, .methodref 2 3), (0, .class_ 4), (0, .nameAndType 5 6), (0, u "java/lang/Object"), (0, u "<init>"), (0, u "()V"), (0, .class_ 8), (0, u "java/lang/Record")] 13

def k2c0 : Code := { maxStack := 1, maxLocals := 1, code := jdk_30_method_1_code, exceptionTable := #[], attributes := #[] }
def k2m0 : Method := { name := "<init>", desc := "()V", sig := { parameters := [], returnType := none }, accessFlags := 4, code := some k2c0 }
/-- java/lang/Record -/
def k2 : Class := { plain "java/lang/Record" (some 0) with
  accessFlags := 1057
  interfaces := #[]
  cf := some (fileOf pool2 7 #[] #[{ accessFlags := 4, nameIndex := 5, descriptorIndex := 6, attributes := #[] }] 1057 2 #[] #[])
  fields := #[]
  methods := #[k2m0]
  instanceTypes := #[]
  staticTypes := #[]
  resolved := Array.replicate 22 none
  statics := none }

def pool3 : Array CpInfo := pool [(1, .methodref 2 3), (0, .class_ 4), (0, .nameAndType 5 6), (0, u "java/lang/Record"), (0, u "<init>"), (0, u "()V"), (0, .fieldref 8 9), (0, .class_ 10), (0, .nameAndType 11 12), (0, u "com/example/tideway/tideway/LinearProgram$Columns"), (0, u "start"), (0, u "[I"), (0, .fieldref 8 14), (0, .nameAndType 15 12), (0, u "rows"), (0, .fieldref 8 17), (0, .nameAndType 18 19), (0, u "values"), (0, u "[D"), (12, u "([I[I[D)V"), (3, u "entries"), (0, u "(I)I"), (8, .class_ 47), (0, u "com/example/tideway/tideway/LinearProgram")] 21

def k3c0 : Code := { maxStack := 2, maxLocals := 4, code := prog_31_method_1_code, exceptionTable := #[], attributes := #[] }
def k3m0 : Method := { name := "<init>", desc := "([I[I[D)V", sig := { parameters := [(.array .int), (.array .int), (.array .double)], returnType := none }, accessFlags := 0, code := some k3c0 }
def k3c1 : Code := { maxStack := 3, maxLocals := 2, code := prog_31_method_2_code, exceptionTable := #[], attributes := #[] }
def k3m1 : Method := { name := "entries", desc := "(I)I", sig := { parameters := [.int], returnType := some .int }, accessFlags := 0, code := some k3c1 }
/-- com/example/tideway/tideway/LinearProgram$Columns -/
def k3 : Class := { plain "com/example/tideway/tideway/LinearProgram$Columns" (some 2) with
  accessFlags := 48
  interfaces := #[]
  cf := some (fileOf pool3 8 #[.nestHost 46] #[{ accessFlags := 0, nameIndex := 5, descriptorIndex := 32, attributes := #[] }, { accessFlags := 0, nameIndex := 36, descriptorIndex := 37, attributes := #[] }] 48 2 #[] #[{ accessFlags := 18, nameIndex := 11, descriptorIndex := 12, attributes := #[] }, { accessFlags := 18, nameIndex := 15, descriptorIndex := 12, attributes := #[] }, { accessFlags := 18, nameIndex := 18, descriptorIndex := 19, attributes := #[] }])
  fields := #[{ name := "start", type := (.array .int), accessFlags := 18, slot := 0, constantValue := 0 }, { name := "rows", type := (.array .int), accessFlags := 18, slot := 1, constantValue := 0 }, { name := "values", type := (.array .double), accessFlags := 18, slot := 2, constantValue := 0 }]
  methods := #[k3m0, k3m1]
  instanceTypes := #[(.array .int), (.array .int), (.array .double)]
  staticTypes := #[]
  resolved := Array.replicate 69 none
  statics := none }

def pool4 : Array CpInfo := pool [(1, u "java/lang/Cloneable"), (0, .class_ 1), (0, u "java/lang/Object"), (0, .class_ 3)] 3

/-- java/lang/Cloneable -/
def k4 : Class := { plain "java/lang/Cloneable" (some 0) with
  accessFlags := 1537
  interfaces := #[]
  cf := some (fileOf pool4 2 #[] #[] 1537 4 #[] #[])
  fields := #[]
  methods := #[]
  instanceTypes := #[]
  staticTypes := #[]
  resolved := Array.replicate 8 none
  statics := none }

def pool5 : Array CpInfo := pool [(1, u "java/io/Serializable"), (0, .class_ 1), (0, u "java/lang/Object"), (0, .class_ 3)] 3

/-- java/io/Serializable -/
def k5 : Class := { plain "java/io/Serializable" (some 0) with
  accessFlags := 1537
  interfaces := #[]
  cf := some (fileOf pool5 2 #[] #[] 1537 4 #[] #[])
  fields := #[]
  methods := #[]
  instanceTypes := #[]
  staticTypes := #[]
  resolved := Array.replicate 8 none
  statics := none }

/-- the primitive byte -/
def k6 : Class := { plain "byte" none with kind := .primitive 'B', accessFlags := 0x411 }
/-- [B -/
def k7 : Class := { plain "[B" (some 0) with kind := .array 6 .byte, interfaces := #[4, 5], accessFlags := 1041 }

/-- the primitive int -/
def k8 : Class := { plain "int" none with kind := .primitive 'I', accessFlags := 0x411 }
/-- [I -/
def k9 : Class := { plain "[I" (some 0) with kind := .array 8 .int, interfaces := #[4, 5], accessFlags := 1041 }

def k10 : Class := { plain "double" none with kind := .primitive 'D', accessFlags := 0x411 }
def k11 : Class := { plain "[D" (some 0) with kind := .array 10 .double, interfaces := #[4, 5], accessFlags := 1041 }
def heap : Heap := #[]
def classes : Array Class := #[k0, k1, k2, k3, k4, k5, k6, k7, k8, k9, k10, k11]
def interned : List (Array UInt16 × Addr) := []
def slotsUsed : Nat := 0
def theMethod : MethodId := ⟨1, 1⟩
def args0 : Array Value := #[.int 5, .int 9, .int 7, .int 0]
def aboutOver (below : List Frame) : State where
  vm := { classes := classes, interned := interned.toArray }
  heap := heap
  slotsUsed := slotsUsed
  threads := #[{ frames := .invoking theMethod args0 :: below }]
def below0 : List Frame := [.native { method := ⟨0, 0⟩, args := #[] }]
def about1 : State := aboutOver below0
def p0 : Program := .bare "" "" ""
def e0 : Env := launch0.env 0 0 0
theorem w_frames : about1.frames = Frame.invoking theMethod args0 :: below0 := rfl
set_option maxRecDepth 65536 in
theorem w_args : argsFit about1.vm theMethod args0 = true := by decide +kernel
set_option maxRecDepth 65536 in
theorem w_heap : heapFits about1 = true := by decide +kernel
set_option maxRecDepth 65536 in
theorem w_runnable : about1.curStatus? = some .runnable := by decide +kernel
set_option maxRecDepth 65536 in
theorem w_alone : about1.alone = true := by decide +kernel
set_option maxRecDepth 65536 in
theorem w_named : about1.methodNamed? x = some theMethod := by decide +kernel
set_option maxRecDepth 65536 in
theorem w_hears : about1.hears theMethod below0 = true := by decide +kernel
set_option maxRecDepth 65536 in
theorem w_ripe : about1.ripe theMethod args0 below0 = true := by decide +kernel
theorem w_running : about1.status = .running := rfl
set_option maxRecDepth 65536 in
theorem w_room : about1.hasRoom e0.platform room_1 = true :=
  launch0.hasRoom_least _ room_1 (by decide +kernel) (by decide +kernel) (by decide +kernel) (by decide +kernel) (by decide +kernel) (by decide +kernel)
theorem allAtoms_all (ts : List Jvm.Cond) (a : Array Jvm.Value) (st : Jvm.State) : (allAtoms ts).before a st = ts.all (fun c => c.before a st) := by
  induction ts with
  | nil => rfl
  | cons c t ih =>
    show (Jvm.Cond.and c (allAtoms t)).before a st = _
    rw [Jvm.Cond.before_and, ih, List.all_cons]
def words1 : List Jvm.Cond := Jvm.Cond.code x code maxLocals ret :: tables_1
/-- a 'code' word, met by the world's own term for the bytes: nothing is compared byte by byte -/
theorem code_word {y : MethodName} {bytes : ByteArray} {mx : Nat} {rt : Option FieldType} {a : Array Value} {s : State} {m : MethodId} {meth : Method} {c : Code} (h1 : s.methodNamed? y = some m) (h2 : s.vm.method? m = some meth) (h3 : meth.code = some c) (h4 : c.code = bytes)
    (h5 : (c.maxLocals == mx && c.exceptionTable.isEmpty && decide (c.maxStack ≤ mostOperands) && decide (meth.sig.returnType = rt) && !meth.locks && decide (parseMethodDescriptor y.desc = some meth.sig)) = true) : (Jvm.Cond.code y bytes mx rt).before a s = true := by
  simp only [Bool.and_eq_true, beq_iff_eq, Bool.not_eq_true', decide_eq_true_eq] at h5
  obtain ⟨⟨⟨⟨⟨g1, g2⟩, g3⟩, g4⟩, g5⟩, g6⟩ := h5
  simp [Cond.before, Cond.holds, Cond.value, h1, h2, h3, h4, g1, g2, g3, g4, g5, g6]
def isCode : Jvm.Cond → Bool
  | .code _ _ _ _ => true
  | _ => false
theorem all_split {L : List Jvm.Cond} {P : Jvm.Cond → Bool} (h1 : L.all (fun c => isCode c || P c) = true) (h2 : ∀ c ∈ L.filter isCode, P c = true) : L.all P = true := by
  refine List.all_eq_true.mpr fun c hc => ?_
  have h := List.all_eq_true.mp h1 c hc
  rcases Bool.eq_false_or_eq_true (isCode c) with hi | hi
  · exact h2 c (List.mem_filter.mpr ⟨hc, hi⟩)
  · simpa [hi] using h
set_option maxRecDepth 65536 in
theorem w_c0 : (Jvm.Cond.code x code maxLocals ret).before args0 about1 = true := code_word (m := ⟨1, 1⟩) (meth := k1m1) (c := k1c1) (by decide +kernel) rfl rfl rfl (by decide +kernel)
set_option maxRecDepth 65536 in
theorem w_c1 : (Jvm.Cond.code ({ cls := "com/example/tideway/tideway/LinearProgram$Columns", name := "<init>", desc := "([I[I[D)V" } : Jvm.MethodName) prog_31_method_1_code (4 : Nat) (Option.none : Option Jvm.ClassFile.FieldType)).before args0 about1 = true := code_word (m := ⟨3, 0⟩) (meth := k3m0) (c := k3c0) (by decide +kernel) rfl rfl rfl (by decide +kernel)
set_option maxRecDepth 65536 in
theorem w_c2 : (Jvm.Cond.code ({ cls := "java/lang/Record", name := "<init>", desc := "()V" } : Jvm.MethodName) jdk_30_method_1_code (1 : Nat) (Option.none : Option Jvm.ClassFile.FieldType)).before args0 about1 = true := code_word (m := ⟨2, 0⟩) (meth := k2m0) (c := k2c0) (by decide +kernel) rfl rfl rfl (by decide +kernel)
set_option maxRecDepth 65536 in
theorem w_c3 : (Jvm.Cond.code ({ cls := "java/lang/Object", name := "<init>", desc := "()V" } : Jvm.MethodName) object_method_1_code (1 : Nat) (Option.none : Option Jvm.ClassFile.FieldType)).before args0 about1 = true := code_word (m := ⟨0, 0⟩) (meth := k0m0) (c := k0c0) (by decide +kernel) rfl rfl rfl (by decide +kernel)
set_option maxRecDepth 65536 in
theorem w_c4 : (Jvm.Cond.code ({ cls := "com/example/tideway/tideway/LinearProgram$Columns", name := "entries", desc := "(I)I" } : Jvm.MethodName) prog_31_method_2_code (2 : Nat) (Option.some Jvm.ClassFile.FieldType.int)).before args0 about1 = true := code_word (m := ⟨3, 1⟩) (meth := k3m1) (c := k3c1) (by decide +kernel) rfl rfl rfl (by decide +kernel)
def codes1 : List Jvm.Cond := [Jvm.Cond.code x code maxLocals ret, Jvm.Cond.code ({ cls := "com/example/tideway/tideway/LinearProgram$Columns", name := "<init>", desc := "([I[I[D)V" } : Jvm.MethodName) prog_31_method_1_code (4 : Nat) (Option.none : Option Jvm.ClassFile.FieldType), Jvm.Cond.code ({ cls := "java/lang/Record", name := "<init>", desc := "()V" } : Jvm.MethodName) jdk_30_method_1_code (1 : Nat) (Option.none : Option Jvm.ClassFile.FieldType), Jvm.Cond.code ({ cls := "java/lang/Object", name := "<init>", desc := "()V" } : Jvm.MethodName) object_method_1_code (1 : Nat) (Option.none : Option Jvm.ClassFile.FieldType), Jvm.Cond.code ({ cls := "com/example/tideway/tideway/LinearProgram$Columns", name := "entries", desc := "(I)I" } : Jvm.MethodName) prog_31_method_2_code (2 : Nat) (Option.some Jvm.ClassFile.FieldType.int)]
set_option maxRecDepth 65536 in
theorem codes_eq : words1.filter isCode = codes1 := rfl
theorem w_codes : ∀ c ∈ words1.filter isCode, c.before args0 about1 = true := by
  rw [codes_eq]
  intro c hc
  simp only [codes1, List.mem_cons, List.not_mem_nil, or_false] at hc
  rcases hc with rfl | rfl | rfl | rfl | rfl
  · exact w_c0
  · exact w_c1
  · exact w_c2
  · exact w_c3
  · exact w_c4
set_option maxRecDepth 65536 in
theorem w_t1 : (words1.take 24).all (fun c => isCode c || c.before args0 about1) = true := by decide +kernel
set_option maxRecDepth 65536 in
theorem w_t2 : (words1.drop 24).all (fun c => isCode c || c.before args0 about1) = true := by decide +kernel
theorem w_tables : (allAtoms (Jvm.Cond.code x code maxLocals ret :: tables_1)).before args0 about1 = true := by
  rw [allAtoms_all]
  show words1.all (fun c => c.before args0 about1) = true
  refine all_split ?_ w_codes
  rw [← List.take_append_drop 24 words1, List.all_append, w_t1, w_t2]
  rfl
set_option maxRecDepth 65536 in
theorem w_case : (Jvm.Cond.and given_1 narrow_1).before args0 about1 = true := by decide +kernel
theorem w_applies : (headSpec (Jvm.Cond.code x code maxLocals ret :: tables_1) room_1).applies x e0.platform about1 = true :=
  (Spec.applies_iff w_frames).mpr ⟨w_running, w_runnable, w_alone, w_named, w_hears, w_ripe, w_room, w_tables⟩
theorem atStart : AtStart classFile x code maxLocals ret World_1 tables_1 room_1 Calls_1 rest_1 Pre_1 launch0 p0 e0 about1 theMethod args0 below0 :=
  ⟨lists_1, trivial, launch0.admits_env _ _ _, launch0.least_env, fairChoices_fair.cas, fairChoices_fair.clock, w_frames, w_args, w_heap, w_applies, trivial, trivial, w_case⟩
end start1
theorem witness_1 : WitnessClaimed_1 := ⟨start1.p0, start1.e0, start1.about1, start1.theMethod, start1.args0, start1.below0, start1.atStart⟩
end Jvm.Pilot.@@N@@

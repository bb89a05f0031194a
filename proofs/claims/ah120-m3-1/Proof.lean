import JvmDerived
import JvmDerived.Pilot.@@N@@Statement
import JvmDerived.Pilot.@@N@@Code
set_option linter.unusedVariables false
set_option linter.unusedSimpArgs false
@@BLOCK:NumsL.lean.txt@@
namespace Jvm.RoadKit
open Sem ClassFile Op Lib Jvm.Stand Jvm.Free Jvm.LawKit
section New
variable {p : Program} {l : Launch} {e : Env} {R : Room} {s : State} {m : MethodId} {args : Array Value} {below : List Frame} {meth : Method} {c : Code} {T : State} {locs : List Loc} {cells slots : Nat}
theorem retI (X : Stand p l e R s m args below meth c T locs cells slots) (hx : p.tables.exec = Jvm.exec) {pc : Nat} {Ls : Array Slot} {z : Int32} {rest : List Value} (hret : meth.sig.returnType = some .int) (hd : decode c.code pc = .ok (.ireturn, 1)) {fs : List Frame}
    (hl : ∀ (f : JFrame) (acts : List Action), f.method = m → f.locked = none → f.entered = [] → (doReturn e (T.setTop f) acts (some (.int z))).1 = T.setFrames fs) : Steps p.tables e below (T.setTop (mkF m pc Ls (.int z :: rest))) (T.setFrames fs) := by
  have hm' : T.vm.method? m = some meth := X.method'
  have hn : narrow .int (.int z) = .int z := rfl
  show Steps p.tables e below (T.setTop { method := m, pc := pc, locals := Ls, stack := _ :: rest, locked := none }) _
  jvm_step X.here [X.here.top, hx, hd, hm', hret, hn]
  first | (intro acts; rw [hl _ acts rfl rfl rfl]) | rw [hl _ _ rfl rfl rfl]
  exact Steps.refl _
end New
end Jvm.RoadKit
namespace Jvm.Pilot.@@N@@
open Jvm Jvm.ClassFile Sem Op Lib Jvm.Free Jvm.Stand Jvm.LawKit Jvm.RoadKit Bundle Jvm.Pilot.@@N@@.Jvm.D
theorem d1_0 : decode jdk_29_method_69_code 0 = .ok (.iload_n 0, 1) := by decide +kernel
theorem d1_1 : decode jdk_29_method_69_code 1 = .ok (.iload_n 1, 1) := by decide +kernel
theorem d1_2 : decode jdk_29_method_69_code 2 = .ok (.if_icmp .gt 7, 3) := by decide +kernel
theorem d1_5 : decode jdk_29_method_69_code 5 = .ok (.iload_n 0, 1) := by decide +kernel
theorem d1_6 : decode jdk_29_method_69_code 6 = .ok (.goto 4, 3) := by decide +kernel
theorem d1_9 : decode jdk_29_method_69_code 9 = .ok (.iload_n 1, 1) := by decide +kernel
theorem d1_10 : decode jdk_29_method_69_code 10 = .ok (.ireturn, 1) := by decide +kernel
theorem pd_0 : parseMethodDescriptor "(II)I" = some ⟨[.int, .int], some .int⟩ := by decide +kernel
theorem pd_1 : parseMethodDescriptor "(IIII)V" = some ⟨[.int, .int, .int, .int], none⟩ := by decide +kernel
theorem pd_2 : parseMethodDescriptor "()V" = some ⟨[], none⟩ := by decide +kernel
theorem pd_3 : parseMethodDescriptor "()I" = some ⟨[], some .int⟩ := by decide +kernel
theorem ef_1 (m : MethodId) (x0 : Int32) (x1 : Int32) : entryFrame m #[(.int x0), (.int x1)] 2 = mkF m 0 #[.val (.int x0), .val (.int x1)] [] := by first | (simp [entryFrame, mkF, argsToLocals, Value.category]; done) | rfl
def f1 (p0 : Int32) (p1 : Int32) : Int32 := if p1 < p0 then p1 else p0
def Q1 (p0 : Int32) (p1 : Int32) (h0 : Heap) (n0 : Nat) (v : Option Value) (h : Heap) (L : List Loc) : Prop := v = some (.int (f1 p0 p1)) ∧ Fr n0 L ∧ h = h0
set_option maxRecDepth 65536 in
set_option maxHeartbeats 40000000 in
theorem rm1 (l : Launch) (Z : State) (aZ : Array Value) (hw : ∀ d ∈ tables_1, d.before aZ Z = true) (ws : List Jvm.Cond) (p0 : Int32) (p1 : Int32)  (h0 : Heap) (n0 : Nat) (Z0 : n0 ≤ h0.size)  :
    MetFree l (⟨"java/lang/Math", "min", "(II)I"⟩ : MethodName) (head1 (Jvm.Cond.code (⟨"java/lang/Math", "min", "(II)I"⟩ : MethodName) jdk_29_method_69_code 2 (some .int) :: ws) ({ frames := 0, cells := 0, slots := 0, locals := 0 } : Room)) (fun a U => a = #[(.int p0), (.int p1)] ∧ Z.Warmed39 U.vm ∧ U.heap = h0) (fun _ _ _ _ _ => True) (fun _ U o U' => ∃ v L, o = .returned v ∧ Q1 p0 p1 h0 n0 v U'.heap L ∧ FrameEnd U o U' L ({ frames := 0, cells := 0, slots := 0, locals := 0 } : Room).cells ({ frames := 0, cells := 0, slots := 0, locals := 0 } : Room).slots) := by
  refine MetFree.of_bodySF (Jvm.Free.JP.mathPlain rfl (by decide +kernel)) hisR ?_
  intro p e s m args below meth c s₁ Bd hml0 hP hK
  obtain ⟨rfl, hZ, hh⟩ := hP
  have hx := Bd.exec
  have hby := Bd.bytes
  have hml : c.maxLocals = 2 := hml0
  have hown : s.vm.findClass "java/lang/Math" = some m.cls := findClass_of_methodNamed Bd.named
  have hnm := (name_of_methodNamed Bd.named Bd.method).1
  have X0 : Stand p l e ({ frames := 0, cells := 0, slots := 0, locals := 0 } : Room) s m #[(.int p0), (.int p1)] below meth c s₁ [] 0 0 := Stand.of_body Bd
  have e0 : s₁.heap = h0 := by rw [← hh, Bd.state]; rfl
  have N0 := Fr.nil n0
  have pre0 : ∀ t, Steps p.tables e below (s₁.setTop (mkF m 0 #[.val (.int p0), .val (.int p1)] [])) t → Steps p.tables e below (s₁.setTop (entryFrame m #[(.int p0), (.int p1)] 2)) t := fun t k => castTop (ef_1 m p0 p1) k
  obtain ⟨fs, hr, hrun, hended, hW, hsame⟩ := X0.leave (v := some (.int (f1 p0 p1))) (fun h => by rw [Bd.returns] at h; cases h)
  refine ⟨_, _, pre0 _ ?_, hrun, hended, _, _, rfl, ?_, ⟨_, rfl⟩, hW, hsame.mono (by decide) (by decide)⟩
  · show Steps p.tables e below (s₁.setTop (mkF m 0 #[.val (.int p0), .val (.int p1)] [])) _
    refine XS.iloadN X0.here hx rfl (hb hby d1_0) rfl ?_
    show Steps p.tables e below (s₁.setTop (mkF m 1 #[.val (.int p0), .val (.int p1)] [(.int p0)])) _
    refine XS.iloadN X0.here hx rfl (hb hby d1_1) rfl ?_
    show Steps p.tables e below (s₁.setTop (mkF m 2 #[.val (.int p0), .val (.int p1)] [(.int p1), (.int p0)])) _
    by_cases c2 : p1 < p0
    · refine XS.icmpYes X0.here hx rfl (pc0 := 2) (pc' := 9) rfl (hb hby d1_2) rfl (tlt c2).2.2.1 (by decide) (by decide) ?_
      show Steps p.tables e below (s₁.setTop (mkF m 9 #[.val (.int p0), .val (.int p1)] [])) _
      refine XS.iloadN X0.here hx rfl (hb hby d1_9) rfl ?_
      show Steps p.tables e below (s₁.setTop (mkF m 10 #[.val (.int p0), .val (.int p1)] [(.int p1)])) _
      have hv : f1 p0 p1 = p1 := by unfold f1; rw [if_pos c2]
      rw [hv] at hr
      exact retI X0 hx Bd.returns (hb hby d1_10) hr
    · refine XS.icmpNo X0.here hx rfl (hb hby d1_2) rfl (flt c2).2.2.1 ?_
      show Steps p.tables e below (s₁.setTop (mkF m 5 #[.val (.int p0), .val (.int p1)] [])) _
      refine XS.iloadN X0.here hx rfl (hb hby d1_5) rfl ?_
      show Steps p.tables e below (s₁.setTop (mkF m 6 #[.val (.int p0), .val (.int p1)] [(.int p0)])) _
      refine XS.goto X0.here hx rfl (pc0 := 6) (pc' := 10) rfl (hb hby d1_6) (by decide) (by decide) ?_
      show Steps p.tables e below (s₁.setTop (mkF m 10 #[.val (.int p0), .val (.int p1)] [(.int p0)])) _
      have hv : f1 p0 p1 = p0 := by unfold f1; rw [if_neg c2]
      rw [hv] at hr
      exact retI X0 hx Bd.returns (hb hby d1_10) hr
  · show Q1 p0 p1 h0 n0 _ s₁.heap _
    rw [e0]
    exact ⟨rfl, N0, rfl⟩
theorem d2_0 : decode jdk_29_method_65_code 0 = .ok (.iload_n 0, 1) := by decide +kernel
theorem d2_1 : decode jdk_29_method_65_code 1 = .ok (.iload_n 1, 1) := by decide +kernel
theorem d2_2 : decode jdk_29_method_65_code 2 = .ok (.if_icmp .lt 7, 3) := by decide +kernel
theorem d2_5 : decode jdk_29_method_65_code 5 = .ok (.iload_n 0, 1) := by decide +kernel
theorem d2_6 : decode jdk_29_method_65_code 6 = .ok (.goto 4, 3) := by decide +kernel
theorem d2_9 : decode jdk_29_method_65_code 9 = .ok (.iload_n 1, 1) := by decide +kernel
theorem d2_10 : decode jdk_29_method_65_code 10 = .ok (.ireturn, 1) := by decide +kernel
theorem ef_2 (m : MethodId) (x0 : Int32) (x1 : Int32) : entryFrame m #[(.int x0), (.int x1)] 2 = mkF m 0 #[.val (.int x0), .val (.int x1)] [] := by first | (simp [entryFrame, mkF, argsToLocals, Value.category]; done) | rfl
def f2 (p0 : Int32) (p1 : Int32) : Int32 := if p0 < p1 then p1 else p0
def Q2 (p0 : Int32) (p1 : Int32) (h0 : Heap) (n0 : Nat) (v : Option Value) (h : Heap) (L : List Loc) : Prop := v = some (.int (f2 p0 p1)) ∧ Fr n0 L ∧ h = h0
set_option maxRecDepth 65536 in
set_option maxHeartbeats 40000000 in
theorem rm2 (l : Launch) (Z : State) (aZ : Array Value) (hw : ∀ d ∈ tables_1, d.before aZ Z = true) (ws : List Jvm.Cond) (p0 : Int32) (p1 : Int32)  (h0 : Heap) (n0 : Nat) (Z0 : n0 ≤ h0.size)  :
    MetFree l (⟨"java/lang/Math", "max", "(II)I"⟩ : MethodName) (head1 (Jvm.Cond.code (⟨"java/lang/Math", "max", "(II)I"⟩ : MethodName) jdk_29_method_65_code 2 (some .int) :: ws) ({ frames := 0, cells := 0, slots := 0, locals := 0 } : Room)) (fun a U => a = #[(.int p0), (.int p1)] ∧ Z.Warmed39 U.vm ∧ U.heap = h0) (fun _ _ _ _ _ => True) (fun _ U o U' => ∃ v L, o = .returned v ∧ Q2 p0 p1 h0 n0 v U'.heap L ∧ FrameEnd U o U' L ({ frames := 0, cells := 0, slots := 0, locals := 0 } : Room).cells ({ frames := 0, cells := 0, slots := 0, locals := 0 } : Room).slots) := by
  refine MetFree.of_bodySF (Jvm.Free.JP.mathPlain rfl (by decide +kernel)) hisR ?_
  intro p e s m args below meth c s₁ Bd hml0 hP hK
  obtain ⟨rfl, hZ, hh⟩ := hP
  have hx := Bd.exec
  have hby := Bd.bytes
  have hml : c.maxLocals = 2 := hml0
  have hown : s.vm.findClass "java/lang/Math" = some m.cls := findClass_of_methodNamed Bd.named
  have hnm := (name_of_methodNamed Bd.named Bd.method).1
  have X0 : Stand p l e ({ frames := 0, cells := 0, slots := 0, locals := 0 } : Room) s m #[(.int p0), (.int p1)] below meth c s₁ [] 0 0 := Stand.of_body Bd
  have e0 : s₁.heap = h0 := by rw [← hh, Bd.state]; rfl
  have N0 := Fr.nil n0
  have pre0 : ∀ t, Steps p.tables e below (s₁.setTop (mkF m 0 #[.val (.int p0), .val (.int p1)] [])) t → Steps p.tables e below (s₁.setTop (entryFrame m #[(.int p0), (.int p1)] 2)) t := fun t k => castTop (ef_2 m p0 p1) k
  obtain ⟨fs, hr, hrun, hended, hW, hsame⟩ := X0.leave (v := some (.int (f2 p0 p1))) (fun h => by rw [Bd.returns] at h; cases h)
  refine ⟨_, _, pre0 _ ?_, hrun, hended, _, _, rfl, ?_, ⟨_, rfl⟩, hW, hsame.mono (by decide) (by decide)⟩
  · show Steps p.tables e below (s₁.setTop (mkF m 0 #[.val (.int p0), .val (.int p1)] [])) _
    refine XS.iloadN X0.here hx rfl (hb hby d2_0) rfl ?_
    show Steps p.tables e below (s₁.setTop (mkF m 1 #[.val (.int p0), .val (.int p1)] [(.int p0)])) _
    refine XS.iloadN X0.here hx rfl (hb hby d2_1) rfl ?_
    show Steps p.tables e below (s₁.setTop (mkF m 2 #[.val (.int p0), .val (.int p1)] [(.int p1), (.int p0)])) _
    by_cases c4 : p0 < p1
    · refine XS.icmpYes X0.here hx rfl (pc0 := 2) (pc' := 9) rfl (hb hby d2_2) rfl (tlt c4).1 (by decide) (by decide) ?_
      show Steps p.tables e below (s₁.setTop (mkF m 9 #[.val (.int p0), .val (.int p1)] [])) _
      refine XS.iloadN X0.here hx rfl (hb hby d2_9) rfl ?_
      show Steps p.tables e below (s₁.setTop (mkF m 10 #[.val (.int p0), .val (.int p1)] [(.int p1)])) _
      have hv : f2 p0 p1 = p1 := by unfold f2; rw [if_pos c4]
      rw [hv] at hr
      exact retI X0 hx Bd.returns (hb hby d2_10) hr
    · refine XS.icmpNo X0.here hx rfl (hb hby d2_2) rfl (flt c4).1 ?_
      show Steps p.tables e below (s₁.setTop (mkF m 5 #[.val (.int p0), .val (.int p1)] [])) _
      refine XS.iloadN X0.here hx rfl (hb hby d2_5) rfl ?_
      show Steps p.tables e below (s₁.setTop (mkF m 6 #[.val (.int p0), .val (.int p1)] [(.int p0)])) _
      refine XS.goto X0.here hx rfl (pc0 := 6) (pc' := 10) rfl (hb hby d2_6) (by decide) (by decide) ?_
      show Steps p.tables e below (s₁.setTop (mkF m 10 #[.val (.int p0), .val (.int p1)] [(.int p0)])) _
      have hv : f2 p0 p1 = p0 := by unfold f2; rw [if_neg c4]
      rw [hv] at hr
      exact retI X0 hx Bd.returns (hb hby d2_10) hr
  · show Q2 p0 p1 h0 n0 _ s₁.heap _
    rw [e0]
    exact ⟨rfl, N0, rfl⟩
theorem d4_0 : decode jdk_30_method_1_code 0 = .ok (.aload_n 0, 1) := by decide +kernel
theorem d4_1 : decode jdk_30_method_1_code 1 = .ok (.invokespecial 1, 3) := by decide +kernel
theorem d4_4 : decode jdk_30_method_1_code 4 = .ok (.return_, 1) := by decide +kernel
theorem pn_4 : plainName "java/lang/Record" = true := by first | (simp [plainName, overriddenIn]; done) | decide +kernel
theorem ef_4 (m : MethodId) (x0 : Addr) : entryFrame m #[(.ref x0)] 1 = mkF m 0 #[.val (.ref x0)] [] := by first | (simp [entryFrame, mkF, argsToLocals, Value.category]; done) | rfl
def Q4 (h0 : Heap) (n0 : Nat) (v : Option Value) (h : Heap) (L : List Loc) : Prop := v = none ∧ Fr n0 L ∧ h = h0
set_option maxRecDepth 65536 in
set_option maxHeartbeats 40000000 in
theorem rm4 (l : Launch) (Z : State) (aZ : Array Value) (hw : ∀ d ∈ tables_1, d.before aZ Z = true) (ws : List Jvm.Cond) (a0 : Addr)  (h0 : Heap) (n0 : Nat) (Z0 : n0 ≤ h0.size)  :
    MetFree l (⟨"java/lang/Record", "<init>", "()V"⟩ : MethodName) (head1 (Jvm.Cond.code (⟨"java/lang/Record", "<init>", "()V"⟩ : MethodName) jdk_30_method_1_code 1 none :: ws) ({ frames := 1, cells := 0, slots := 0, locals := 12 } : Room)) (fun a U => a = #[(.ref a0)] ∧ Z.Warmed39 U.vm ∧ U.heap = h0) (fun _ _ _ _ _ => True) (fun _ U o U' => ∃ v L, o = .returned v ∧ Q4 h0 n0 v U'.heap L ∧ FrameEnd U o U' L ({ frames := 1, cells := 0, slots := 0, locals := 12 } : Room).cells ({ frames := 1, cells := 0, slots := 0, locals := 12 } : Room).slots) := by
  refine MetFree.of_bodySF (plainFor_of_name pn_4) hisR ?_
  intro p e s m args below meth c s₁ Bd hml0 hP hK
  obtain ⟨rfl, hZ, hh⟩ := hP
  have hx := Bd.exec
  have hby := Bd.bytes
  have hml : c.maxLocals = 1 := hml0
  have hown : s.vm.findClass "java/lang/Record" = some m.cls := findClass_of_methodNamed Bd.named
  have hnm := (name_of_methodNamed Bd.named Bd.method).1
  have X0 : Stand p l e ({ frames := 1, cells := 0, slots := 0, locals := 12 } : Room) s m #[(.ref a0)] below meth c s₁ [] 0 0 := Stand.of_body Bd
  have e0 : s₁.heap = h0 := by rw [← hh, Bd.state]; rfl
  have N0 := Fr.nil n0
  have pre0 : ∀ t, Steps p.tables e below (s₁.setTop (mkF m 0 #[.val (.ref a0)] [])) t → Steps p.tables e below (s₁.setTop (entryFrame m #[(.ref a0)] 1)) t := fun t k => castTop (ef_4 m a0) k
  have pre5 : ∀ t, Steps p.tables e below (s₁.setTop (mkF m 1 #[.val (.ref a0)] [(.ref a0)])) t → Steps p.tables e below (s₁.setTop (entryFrame m #[(.ref a0)] 1)) t := fun t k => by
    refine pre0 _ ?_
    show Steps p.tables e below (s₁.setTop (mkF m 0 #[.val (.ref a0)] [])) _
    refine XS.aloadN X0.here hx rfl (hb hby d4_0) rfl rfl ?_
    show Steps p.tables e below (s₁.setTop (mkF m 1 #[.val (.ref a0)] [(.ref a0)])) _
    exact k
  obtain ⟨T6, X6, e6, st6⟩ := initO X0 hx hZ hown (hw _ (List.mem_of_getElem? (i := 20) rfl)) (hw _ (List.mem_of_getElem? (i := 21) rfl)) (hw _ (List.mem_of_getElem? (i := 22) rfl)) e0 (g := (mkF m 1 #[.val (.ref a0)] [(.ref a0)])) rfl (by rw [hml]; rfl) rfl (hb hby d4_1) (by decide) (W := 0) (by show 2 * 0 + _ ≤ _; exact Nat.le_of_eq rfl) (by decide)
  have pre6 : ∀ t, Steps p.tables e below (T6.setTop (mkF m 4 #[.val (.ref a0)] [])) t → Steps p.tables e below (s₁.setTop (entryFrame m #[(.ref a0)] 1)) t := fun t k => pre5 _ (st6 t k)
  obtain ⟨fs, hr, hrun, hended, hW, hsame⟩ := X6.leave (v := none) (fun _ => rfl)
  refine ⟨_, _, pre6 _ ?_, hrun, hended, _, _, rfl, ?_, ⟨_, rfl⟩, hW, hsame.mono (by decide) (by decide)⟩
  · show Steps p.tables e below (T6.setTop (mkF m 4 #[.val (.ref a0)] [])) _
    exact X6.returnOut hx Bd.returns (hb hby d4_4) hr
  · show Q4 h0 n0 _ T6.heap _
    rw [e6]
    exact ⟨rfl, N0, rfl⟩
theorem d3_0 : decode prog_75_method_1_code 0 = .ok (.aload_n 0, 1) := by decide +kernel
theorem d3_1 : decode prog_75_method_1_code 1 = .ok (.invokespecial 1, 3) := by decide +kernel
theorem d3_4 : decode prog_75_method_1_code 4 = .ok (.aload_n 0, 1) := by decide +kernel
theorem d3_5 : decode prog_75_method_1_code 5 = .ok (.iload_n 1, 1) := by decide +kernel
theorem d3_6 : decode prog_75_method_1_code 6 = .ok (.putfield 7, 3) := by decide +kernel
theorem d3_9 : decode prog_75_method_1_code 9 = .ok (.aload_n 0, 1) := by decide +kernel
theorem d3_10 : decode prog_75_method_1_code 10 = .ok (.iload_n 2, 1) := by decide +kernel
theorem d3_11 : decode prog_75_method_1_code 11 = .ok (.putfield 13, 3) := by decide +kernel
theorem d3_14 : decode prog_75_method_1_code 14 = .ok (.aload_n 0, 1) := by decide +kernel
theorem d3_15 : decode prog_75_method_1_code 15 = .ok (.iload_n 3, 1) := by decide +kernel
theorem d3_16 : decode prog_75_method_1_code 16 = .ok (.putfield 16, 3) := by decide +kernel
theorem d3_19 : decode prog_75_method_1_code 19 = .ok (.aload_n 0, 1) := by decide +kernel
theorem d3_20 : decode prog_75_method_1_code 20 = .ok (.iload 4, 2) := by decide +kernel
theorem d3_22 : decode prog_75_method_1_code 22 = .ok (.putfield 19, 3) := by decide +kernel
theorem d3_25 : decode prog_75_method_1_code 25 = .ok (.return_, 1) := by decide +kernel
theorem pn_3 : plainName "com/example/novation/novation/risk/Backtest" = true := by first | (simp [plainName, overriddenIn]; done) | decide +kernel
theorem ef_3 (m : MethodId) (x0 : Addr) (x1 : Int32) (x2 : Int32) (x3 : Int32) (x4 : Int32) : entryFrame m #[(.ref x0), (.int x1), (.int x2), (.int x3), (.int x4)] 5 = mkF m 0 #[.val (.ref x0), .val (.int x1), .val (.int x2), .val (.int x3), .val (.int x4)] [] := by first | (simp [entryFrame, mkF, argsToLocals, Value.category]; done) | rfl
def Q3 (Z : State) (a0 : Addr) (p1 : Int32) (p2 : Int32) (p3 : Int32) (p4 : Int32) (h0 : Heap) (n0 : Nat) (v : Option Value) (h : Heap) (L : List Loc) : Prop := v = none ∧ Fr n0 L ∧ Keep h0 h [a0] ∧ Exa Z h a0 "com/example/novation/novation/risk/Backtest" ∧ Fld Z h a0 "com/example/novation/novation/risk/Backtest" "firstDay" "I" (.int p1) ∧ Fld Z h a0 "com/example/novation/novation/risk/Backtest" "lastDay" "I" (.int p2) ∧ Fld Z h a0 "com/example/novation/novation/risk/Backtest" "longBreaches" "I" (.int p3) ∧ Fld Z h a0 "com/example/novation/novation/risk/Backtest" "shortBreaches" "I" (.int p4)
set_option maxRecDepth 65536 in
set_option maxHeartbeats 40000000 in
theorem rm3 (l : Launch) (Z : State) (aZ : Array Value) (hw : ∀ d ∈ tables_1, d.before aZ Z = true) (ws : List Jvm.Cond) (a0 : Addr) (p1 : Int32) (p2 : Int32) (p3 : Int32) (p4 : Int32)  (h0 : Heap) (n0 : Nat) (Z0 : n0 ≤ h0.size) (F_firstDay : Fld Z h0 a0 "com/example/novation/novation/risk/Backtest" "firstDay" "I" (.int (0 : Int32))) (F_lastDay : Fld Z h0 a0 "com/example/novation/novation/risk/Backtest" "lastDay" "I" (.int (0 : Int32))) (F_longBreaches : Fld Z h0 a0 "com/example/novation/novation/risk/Backtest" "longBreaches" "I" (.int (0 : Int32))) (F_shortBreaches : Fld Z h0 a0 "com/example/novation/novation/risk/Backtest" "shortBreaches" "I" (.int (0 : Int32))) (E_o : Exa Z h0 a0 "com/example/novation/novation/risk/Backtest") (g_a0 : n0 ≤ a0) :
    MetFree l (⟨"com/example/novation/novation/risk/Backtest", "<init>", "(IIII)V"⟩ : MethodName) (head1 (Jvm.Cond.code (⟨"com/example/novation/novation/risk/Backtest", "<init>", "(IIII)V"⟩ : MethodName) prog_75_method_1_code 5 none :: ws) ({ frames := 2, cells := 0, slots := 0, locals := 24 } : Room)) (fun a U => a = #[(.ref a0), (.int p1), (.int p2), (.int p3), (.int p4)] ∧ Z.Warmed39 U.vm ∧ U.heap = h0) (fun _ _ _ _ _ => True) (fun _ U o U' => ∃ v L, o = .returned v ∧ Q3 Z a0 p1 p2 p3 p4 h0 n0 v U'.heap L ∧ FrameEnd U o U' L ({ frames := 2, cells := 0, slots := 0, locals := 24 } : Room).cells ({ frames := 2, cells := 0, slots := 0, locals := 24 } : Room).slots) := by
  refine MetFree.of_bodySF (plainFor_of_name pn_3) hisR ?_
  intro p e s m args below meth c s₁ Bd hml0 hP hK
  obtain ⟨rfl, hZ, hh⟩ := hP
  have hx := Bd.exec
  have hby := Bd.bytes
  have hml : c.maxLocals = 5 := hml0
  have hown : s.vm.findClass "com/example/novation/novation/risk/Backtest" = some m.cls := findClass_of_methodNamed Bd.named
  have hnm := (name_of_methodNamed Bd.named Bd.method).1
  have X0 : Stand p l e ({ frames := 2, cells := 0, slots := 0, locals := 24 } : Room) s m #[(.ref a0), (.int p1), (.int p2), (.int p3), (.int p4)] below meth c s₁ [] 0 0 := Stand.of_body Bd
  have e0 : s₁.heap = h0 := by rw [← hh, Bd.state]; rfl
  have N0 := Fr.nil n0
  have pre0 : ∀ t, Steps p.tables e below (s₁.setTop (mkF m 0 #[.val (.ref a0), .val (.int p1), .val (.int p2), .val (.int p3), .val (.int p4)] [])) t → Steps p.tables e below (s₁.setTop (entryFrame m #[(.ref a0), (.int p1), (.int p2), (.int p3), (.int p4)] 5)) t := fun t k => castTop (ef_3 m a0 p1 p2 p3 p4) k
  have pre19 : ∀ t, Steps p.tables e below (s₁.setTop (mkF m 1 #[.val (.ref a0), .val (.int p1), .val (.int p2), .val (.int p3), .val (.int p4)] [(.ref a0)])) t → Steps p.tables e below (s₁.setTop (entryFrame m #[(.ref a0), (.int p1), (.int p2), (.int p3), (.int p4)] 5)) t := fun t k => by
    refine pre0 _ ?_
    show Steps p.tables e below (s₁.setTop (mkF m 0 #[.val (.ref a0), .val (.int p1), .val (.int p2), .val (.int p3), .val (.int p4)] [])) _
    refine XS.aloadN X0.here hx rfl (hb hby d3_0) rfl rfl ?_
    show Steps p.tables e below (s₁.setTop (mkF m 1 #[.val (.ref a0), .val (.int p1), .val (.int p2), .val (.int p3), .val (.int p4)] [(.ref a0)])) _
    exact k
  obtain ⟨_, _, ⟨T20, L20, k20, n20⟩, -, X20, ⟨Lc20, hQ20, l20, y20, z20⟩, st20⟩ := X0.specialBack hx (y := (⟨"java/lang/Record", "<init>", "()V"⟩ : MethodName)) rfl hown (mvT hZ (hw _ (List.mem_of_getElem? (i := 15) rfl))) (mvT hZ (hw _ (List.mem_of_getElem? (i := 16) rfl))) (mvT hZ (hw _ (List.mem_of_getElem? (i := 19) rfl))) (by decide) (backOf (W := 0) (rm4 l Z aZ hw [] a0  h0 n0 Z0 ) hZ (hw _ (List.mem_of_getElem? (i := 19) rfl)) (hw _ (List.mem_of_getElem? (i := 18) rfl)) (by decide) (by decide)) (g := (mkF m 1 #[.val (.ref a0), .val (.int p1), .val (.int p2), .val (.int p3), .val (.int p4)] [(.ref a0)])) rfl (by rw [hml]; rfl) (Steps.refl _) (a := a0) (argsL := []) (rest := []) (lenOf pd_2 rfl) rfl (by show 2 * 0 + _ ≤ _; exact Nat.le_of_eq rfl) (hb hby d3_1) (fun _ _ => ⟨rfl, e0, (by decide : 0 + 0 ≤ _), (by decide : 0 + 0 ≤ _)⟩)
  dsimp only [Pt.U, Pt.locs, Pt.cells, Pt.slots] at X20 l20 y20 z20 st20 hQ20
  subst l20 y20 z20
  obtain ⟨rfl, N20q, e20⟩ := hQ20
  have N20 := Fr.app N0 N20q
  have pre20 : ∀ t, Steps p.tables e below (T20.setTop (mkF m 4 #[.val (.ref a0), .val (.int p1), .val (.int p2), .val (.int p3), .val (.int p4)] [])) t → Steps p.tables e below (s₁.setTop (entryFrame m #[(.ref a0), (.int p1), (.int p2), (.int p3), (.int p4)] 5)) t := fun t k => pre19 _ (st20.trans k)
  have pre21 : ∀ t, Steps p.tables e below (T20.setTop (mkF m 6 #[.val (.ref a0), .val (.int p1), .val (.int p2), .val (.int p3), .val (.int p4)] [(.int p1), (.ref a0)])) t → Steps p.tables e below (s₁.setTop (entryFrame m #[(.ref a0), (.int p1), (.int p2), (.int p3), (.int p4)] 5)) t := fun t k => by
    refine pre20 _ ?_
    show Steps p.tables e below (T20.setTop (mkF m 4 #[.val (.ref a0), .val (.int p1), .val (.int p2), .val (.int p3), .val (.int p4)] [])) _
    refine XS.aloadN X20.here hx rfl (hb hby d3_4) rfl rfl ?_
    show Steps p.tables e below (T20.setTop (mkF m 5 #[.val (.ref a0), .val (.int p1), .val (.int p2), .val (.int p3), .val (.int p4)] [(.ref a0)])) _
    refine XS.iloadN X20.here hx rfl (hb hby d3_5) rfl ?_
    show Steps p.tables e below (T20.setTop (mkF m 6 #[.val (.ref a0), .val (.int p1), .val (.int p2), .val (.int p3), .val (.int p4)] [(.int p1), (.ref a0)])) _
    exact k
  obtain ⟨T22, h22, X22, e22, W22, st22⟩ := putF X20 hx hZ hown (host := "") (Or.inl (hw _ (List.mem_of_getElem? (i := 23) rfl))) Via.refl e20 F_firstDay E_o (Or.inr ⟨(hw _ (List.mem_of_getElem? (i := 24) rfl)), rfl, hnm⟩) (hw _ (List.mem_of_getElem? (i := 10) rfl)) (ty := .int) (by decide) rfl rfl (g := (mkF m 6 #[.val (.ref a0), .val (.int p1), .val (.int p2), .val (.int p3), .val (.int p4)] [(.int p1), (.ref a0)])) rfl rfl (hb hby d3_6)
  have F22_0 := E_o.wr W22
  have F22_1 := F_firstDay.same W22
  have F22_2 := F_lastDay.other W22 (Or.inr (slot_ne (Or.inr (hw _ (List.mem_of_getElem? (i := 26) rfl))) (Or.inr (hw _ (List.mem_of_getElem? (i := 24) rfl))) (by decide) (t := .int) (t' := .int) (by decide) (by decide)))
  have F22_3 := F_longBreaches.other W22 (Or.inr (slot_ne (Or.inr (hw _ (List.mem_of_getElem? (i := 28) rfl))) (Or.inr (hw _ (List.mem_of_getElem? (i := 24) rfl))) (by decide) (t := .int) (t' := .int) (by decide) (by decide)))
  have F22_4 := F_shortBreaches.other W22 (Or.inr (slot_ne (Or.inr (hw _ (List.mem_of_getElem? (i := 30) rfl))) (Or.inr (hw _ (List.mem_of_getElem? (i := 24) rfl))) (by decide) (t := .int) (t' := .int) (by decide) (by decide)))
  have Zs22 : n0 ≤ h22.size := Nat.le_trans Z0 (Keep.of_wr W22).1
  have K0 := Keep.refl h0 [a0]
  have K22 := K0.wr W22 (Or.inl (List.mem_of_getElem? (i := 0) rfl))
  have N22 := Fr.snoc X22 N20 g_a0
  have pre22 : ∀ t, Steps p.tables e below (T22.setTop (mkF m 9 #[.val (.ref a0), .val (.int p1), .val (.int p2), .val (.int p3), .val (.int p4)] [])) t → Steps p.tables e below (s₁.setTop (entryFrame m #[(.ref a0), (.int p1), (.int p2), (.int p3), (.int p4)] 5)) t := fun t k => pre21 _ (st22 t k)
  have pre23 : ∀ t, Steps p.tables e below (T22.setTop (mkF m 11 #[.val (.ref a0), .val (.int p1), .val (.int p2), .val (.int p3), .val (.int p4)] [(.int p2), (.ref a0)])) t → Steps p.tables e below (s₁.setTop (entryFrame m #[(.ref a0), (.int p1), (.int p2), (.int p3), (.int p4)] 5)) t := fun t k => by
    refine pre22 _ ?_
    show Steps p.tables e below (T22.setTop (mkF m 9 #[.val (.ref a0), .val (.int p1), .val (.int p2), .val (.int p3), .val (.int p4)] [])) _
    refine XS.aloadN X22.here hx rfl (hb hby d3_9) rfl rfl ?_
    show Steps p.tables e below (T22.setTop (mkF m 10 #[.val (.ref a0), .val (.int p1), .val (.int p2), .val (.int p3), .val (.int p4)] [(.ref a0)])) _
    refine XS.iloadN X22.here hx rfl (hb hby d3_10) rfl ?_
    show Steps p.tables e below (T22.setTop (mkF m 11 #[.val (.ref a0), .val (.int p1), .val (.int p2), .val (.int p3), .val (.int p4)] [(.int p2), (.ref a0)])) _
    exact k
  obtain ⟨T24, h24, X24, e24, W24, st24⟩ := putF X22 hx hZ hown (host := "") (Or.inl (hw _ (List.mem_of_getElem? (i := 25) rfl))) Via.refl e22 F22_2 F22_0 (Or.inr ⟨(hw _ (List.mem_of_getElem? (i := 26) rfl)), rfl, hnm⟩) (hw _ (List.mem_of_getElem? (i := 10) rfl)) (ty := .int) (by decide) rfl rfl (g := (mkF m 11 #[.val (.ref a0), .val (.int p1), .val (.int p2), .val (.int p3), .val (.int p4)] [(.int p2), (.ref a0)])) rfl rfl (hb hby d3_11)
  have F24_0 := F22_0.wr W24
  have F24_1 := F22_1.other W24 (Or.inr (slot_ne (Or.inr (hw _ (List.mem_of_getElem? (i := 24) rfl))) (Or.inr (hw _ (List.mem_of_getElem? (i := 26) rfl))) (by decide) (t := .int) (t' := .int) (by decide) (by decide)))
  have F24_2 := F22_2.same W24
  have F24_3 := F22_3.other W24 (Or.inr (slot_ne (Or.inr (hw _ (List.mem_of_getElem? (i := 28) rfl))) (Or.inr (hw _ (List.mem_of_getElem? (i := 26) rfl))) (by decide) (t := .int) (t' := .int) (by decide) (by decide)))
  have F24_4 := F22_4.other W24 (Or.inr (slot_ne (Or.inr (hw _ (List.mem_of_getElem? (i := 30) rfl))) (Or.inr (hw _ (List.mem_of_getElem? (i := 26) rfl))) (by decide) (t := .int) (t' := .int) (by decide) (by decide)))
  have Zs24 : n0 ≤ h24.size := Nat.le_trans Zs22 (Keep.of_wr W24).1
  have K24 := K22.wr W24 (Or.inl (List.mem_of_getElem? (i := 0) rfl))
  have N24 := Fr.snoc X24 N22 g_a0
  have pre24 : ∀ t, Steps p.tables e below (T24.setTop (mkF m 14 #[.val (.ref a0), .val (.int p1), .val (.int p2), .val (.int p3), .val (.int p4)] [])) t → Steps p.tables e below (s₁.setTop (entryFrame m #[(.ref a0), (.int p1), (.int p2), (.int p3), (.int p4)] 5)) t := fun t k => pre23 _ (st24 t k)
  have pre25 : ∀ t, Steps p.tables e below (T24.setTop (mkF m 16 #[.val (.ref a0), .val (.int p1), .val (.int p2), .val (.int p3), .val (.int p4)] [(.int p3), (.ref a0)])) t → Steps p.tables e below (s₁.setTop (entryFrame m #[(.ref a0), (.int p1), (.int p2), (.int p3), (.int p4)] 5)) t := fun t k => by
    refine pre24 _ ?_
    show Steps p.tables e below (T24.setTop (mkF m 14 #[.val (.ref a0), .val (.int p1), .val (.int p2), .val (.int p3), .val (.int p4)] [])) _
    refine XS.aloadN X24.here hx rfl (hb hby d3_14) rfl rfl ?_
    show Steps p.tables e below (T24.setTop (mkF m 15 #[.val (.ref a0), .val (.int p1), .val (.int p2), .val (.int p3), .val (.int p4)] [(.ref a0)])) _
    refine XS.iloadN X24.here hx rfl (hb hby d3_15) rfl ?_
    show Steps p.tables e below (T24.setTop (mkF m 16 #[.val (.ref a0), .val (.int p1), .val (.int p2), .val (.int p3), .val (.int p4)] [(.int p3), (.ref a0)])) _
    exact k
  obtain ⟨T26, h26, X26, e26, W26, st26⟩ := putF X24 hx hZ hown (host := "") (Or.inl (hw _ (List.mem_of_getElem? (i := 27) rfl))) Via.refl e24 F24_3 F24_0 (Or.inr ⟨(hw _ (List.mem_of_getElem? (i := 28) rfl)), rfl, hnm⟩) (hw _ (List.mem_of_getElem? (i := 10) rfl)) (ty := .int) (by decide) rfl rfl (g := (mkF m 16 #[.val (.ref a0), .val (.int p1), .val (.int p2), .val (.int p3), .val (.int p4)] [(.int p3), (.ref a0)])) rfl rfl (hb hby d3_16)
  have F26_0 := F24_0.wr W26
  have F26_1 := F24_1.other W26 (Or.inr (slot_ne (Or.inr (hw _ (List.mem_of_getElem? (i := 24) rfl))) (Or.inr (hw _ (List.mem_of_getElem? (i := 28) rfl))) (by decide) (t := .int) (t' := .int) (by decide) (by decide)))
  have F26_2 := F24_2.other W26 (Or.inr (slot_ne (Or.inr (hw _ (List.mem_of_getElem? (i := 26) rfl))) (Or.inr (hw _ (List.mem_of_getElem? (i := 28) rfl))) (by decide) (t := .int) (t' := .int) (by decide) (by decide)))
  have F26_3 := F24_3.same W26
  have F26_4 := F24_4.other W26 (Or.inr (slot_ne (Or.inr (hw _ (List.mem_of_getElem? (i := 30) rfl))) (Or.inr (hw _ (List.mem_of_getElem? (i := 28) rfl))) (by decide) (t := .int) (t' := .int) (by decide) (by decide)))
  have Zs26 : n0 ≤ h26.size := Nat.le_trans Zs24 (Keep.of_wr W26).1
  have K26 := K24.wr W26 (Or.inl (List.mem_of_getElem? (i := 0) rfl))
  have N26 := Fr.snoc X26 N24 g_a0
  have pre26 : ∀ t, Steps p.tables e below (T26.setTop (mkF m 19 #[.val (.ref a0), .val (.int p1), .val (.int p2), .val (.int p3), .val (.int p4)] [])) t → Steps p.tables e below (s₁.setTop (entryFrame m #[(.ref a0), (.int p1), (.int p2), (.int p3), (.int p4)] 5)) t := fun t k => pre25 _ (st26 t k)
  have pre27 : ∀ t, Steps p.tables e below (T26.setTop (mkF m 22 #[.val (.ref a0), .val (.int p1), .val (.int p2), .val (.int p3), .val (.int p4)] [(.int p4), (.ref a0)])) t → Steps p.tables e below (s₁.setTop (entryFrame m #[(.ref a0), (.int p1), (.int p2), (.int p3), (.int p4)] 5)) t := fun t k => by
    refine pre26 _ ?_
    show Steps p.tables e below (T26.setTop (mkF m 19 #[.val (.ref a0), .val (.int p1), .val (.int p2), .val (.int p3), .val (.int p4)] [])) _
    refine XS.aloadN X26.here hx rfl (hb hby d3_19) rfl rfl ?_
    show Steps p.tables e below (T26.setTop (mkF m 20 #[.val (.ref a0), .val (.int p1), .val (.int p2), .val (.int p3), .val (.int p4)] [(.ref a0)])) _
    refine XS.iload X26.here hx rfl (hb hby d3_20) rfl ?_
    show Steps p.tables e below (T26.setTop (mkF m 22 #[.val (.ref a0), .val (.int p1), .val (.int p2), .val (.int p3), .val (.int p4)] [(.int p4), (.ref a0)])) _
    exact k
  obtain ⟨T28, h28, X28, e28, W28, st28⟩ := putF X26 hx hZ hown (host := "") (Or.inl (hw _ (List.mem_of_getElem? (i := 29) rfl))) Via.refl e26 F26_4 F26_0 (Or.inr ⟨(hw _ (List.mem_of_getElem? (i := 30) rfl)), rfl, hnm⟩) (hw _ (List.mem_of_getElem? (i := 10) rfl)) (ty := .int) (by decide) rfl rfl (g := (mkF m 22 #[.val (.ref a0), .val (.int p1), .val (.int p2), .val (.int p3), .val (.int p4)] [(.int p4), (.ref a0)])) rfl rfl (hb hby d3_22)
  have F28_0 := F26_0.wr W28
  have F28_1 := F26_1.other W28 (Or.inr (slot_ne (Or.inr (hw _ (List.mem_of_getElem? (i := 24) rfl))) (Or.inr (hw _ (List.mem_of_getElem? (i := 30) rfl))) (by decide) (t := .int) (t' := .int) (by decide) (by decide)))
  have F28_2 := F26_2.other W28 (Or.inr (slot_ne (Or.inr (hw _ (List.mem_of_getElem? (i := 26) rfl))) (Or.inr (hw _ (List.mem_of_getElem? (i := 30) rfl))) (by decide) (t := .int) (t' := .int) (by decide) (by decide)))
  have F28_3 := F26_3.other W28 (Or.inr (slot_ne (Or.inr (hw _ (List.mem_of_getElem? (i := 28) rfl))) (Or.inr (hw _ (List.mem_of_getElem? (i := 30) rfl))) (by decide) (t := .int) (t' := .int) (by decide) (by decide)))
  have F28_4 := F26_4.same W28
  have Zs28 : n0 ≤ h28.size := Nat.le_trans Zs26 (Keep.of_wr W28).1
  have K28 := K26.wr W28 (Or.inl (List.mem_of_getElem? (i := 0) rfl))
  have N28 := Fr.snoc X28 N26 g_a0
  have pre28 : ∀ t, Steps p.tables e below (T28.setTop (mkF m 25 #[.val (.ref a0), .val (.int p1), .val (.int p2), .val (.int p3), .val (.int p4)] [])) t → Steps p.tables e below (s₁.setTop (entryFrame m #[(.ref a0), (.int p1), (.int p2), (.int p3), (.int p4)] 5)) t := fun t k => pre27 _ (st28 t k)
  obtain ⟨fs, hr, hrun, hended, hW, hsame⟩ := X28.leave (v := none) (fun _ => rfl)
  refine ⟨_, _, pre28 _ ?_, hrun, hended, _, _, rfl, ?_, ⟨_, rfl⟩, hW, hsame.mono (by decide) (by decide)⟩
  · show Steps p.tables e below (T28.setTop (mkF m 25 #[.val (.ref a0), .val (.int p1), .val (.int p2), .val (.int p3), .val (.int p4)] [])) _
    exact X28.returnOut hx Bd.returns (hb hby d3_25) hr
  · show Q3 Z a0 p1 p2 p3 p4 h0 n0 _ T28.heap _
    rw [e28]
    exact ⟨rfl, N28, K28, F28_0, F28_1, F28_2, F28_3, F28_4⟩
theorem d6_0 : decode prog_75_method_4_code 0 = .ok (.aload_n 0, 1) := by decide +kernel
theorem d6_1 : decode prog_75_method_4_code 1 = .ok (.getfield 13, 3) := by decide +kernel
theorem d6_4 : decode prog_75_method_4_code 4 = .ok (.aload_n 0, 1) := by decide +kernel
theorem d6_5 : decode prog_75_method_4_code 5 = .ok (.getfield 7, 3) := by decide +kernel
theorem d6_8 : decode prog_75_method_4_code 8 = .ok (.isub, 1) := by decide +kernel
theorem d6_9 : decode prog_75_method_4_code 9 = .ok (.iconst 1, 1) := by decide +kernel
theorem d6_10 : decode prog_75_method_4_code 10 = .ok (.iadd, 1) := by decide +kernel
theorem d6_11 : decode prog_75_method_4_code 11 = .ok (.ireturn, 1) := by decide +kernel
theorem ef_6 (m : MethodId) (x0 : Addr) : entryFrame m #[(.ref x0)] 1 = mkF m 0 #[.val (.ref x0)] [] := by first | (simp [entryFrame, mkF, argsToLocals, Value.category]; done) | rfl
def f6 (wf : Int32) (we : Int32) : Int32 := ((we - wf) + (1 : Int32))
def Q6 (wf : Int32) (we : Int32) (h0 : Heap) (n0 : Nat) (v : Option Value) (h : Heap) (L : List Loc) : Prop := v = some (.int (f6 wf we)) ∧ Fr n0 L ∧ h = h0
set_option maxRecDepth 65536 in
set_option maxHeartbeats 40000000 in
theorem rm6 (l : Launch) (Z : State) (aZ : Array Value) (hw : ∀ d ∈ tables_1, d.before aZ Z = true) (ws : List Jvm.Cond) (a0 : Addr) (wf : Int32) (we : Int32) (h0 : Heap) (n0 : Nat) (Z0 : n0 ≤ h0.size) (F_first : Fld Z h0 a0 "com/example/novation/novation/risk/Backtest" "firstDay" "I" (.int wf)) (F_last : Fld Z h0 a0 "com/example/novation/novation/risk/Backtest" "lastDay" "I" (.int we)) :
    MetFree l (⟨"com/example/novation/novation/risk/Backtest", "days", "()I"⟩ : MethodName) (head1 (Jvm.Cond.code (⟨"com/example/novation/novation/risk/Backtest", "days", "()I"⟩ : MethodName) prog_75_method_4_code 1 (some .int) :: ws) ({ frames := 0, cells := 0, slots := 0, locals := 0 } : Room)) (fun a U => a = #[(.ref a0)] ∧ Z.Warmed39 U.vm ∧ U.heap = h0) (fun _ _ _ _ _ => True) (fun _ U o U' => ∃ v L, o = .returned v ∧ Q6 wf we h0 n0 v U'.heap L ∧ FrameEnd U o U' L ({ frames := 0, cells := 0, slots := 0, locals := 0 } : Room).cells ({ frames := 0, cells := 0, slots := 0, locals := 0 } : Room).slots) := by
  refine MetFree.of_bodySF (plainFor_of_name pn_3) hisR ?_
  intro p e s m args below meth c s₁ Bd hml0 hP hK
  obtain ⟨rfl, hZ, hh⟩ := hP
  have hx := Bd.exec
  have hby := Bd.bytes
  have hml : c.maxLocals = 1 := hml0
  have hown : s.vm.findClass "com/example/novation/novation/risk/Backtest" = some m.cls := findClass_of_methodNamed Bd.named
  have hnm := (name_of_methodNamed Bd.named Bd.method).1
  have X0 : Stand p l e ({ frames := 0, cells := 0, slots := 0, locals := 0 } : Room) s m #[(.ref a0)] below meth c s₁ [] 0 0 := Stand.of_body Bd
  have e0 : s₁.heap = h0 := by rw [← hh, Bd.state]; rfl
  have N0 := Fr.nil n0
  have pre0 : ∀ t, Steps p.tables e below (s₁.setTop (mkF m 0 #[.val (.ref a0)] [])) t → Steps p.tables e below (s₁.setTop (entryFrame m #[(.ref a0)] 1)) t := fun t k => castTop (ef_6 m a0) k
  have pre35 : ∀ t, Steps p.tables e below (s₁.setTop (mkF m 1 #[.val (.ref a0)] [(.ref a0)])) t → Steps p.tables e below (s₁.setTop (entryFrame m #[(.ref a0)] 1)) t := fun t k => by
    refine pre0 _ ?_
    show Steps p.tables e below (s₁.setTop (mkF m 0 #[.val (.ref a0)] [])) _
    refine XS.aloadN X0.here hx rfl (hb hby d6_0) rfl rfl ?_
    show Steps p.tables e below (s₁.setTop (mkF m 1 #[.val (.ref a0)] [(.ref a0)])) _
    exact k
  obtain ⟨T36, X36, e36, st36⟩ := getF X0 hx hZ hown (host := "") (Or.inl (hw _ (List.mem_of_getElem? (i := 25) rfl))) Via.refl e0 F_last (g := (mkF m 1 #[.val (.ref a0)] [(.ref a0)])) rfl rfl (hb hby d6_1)
  have pre36 : ∀ t, Steps p.tables e below (T36.setTop (mkF m 4 #[.val (.ref a0)] [(.int we)])) t → Steps p.tables e below (s₁.setTop (entryFrame m #[(.ref a0)] 1)) t := fun t k => pre35 _ (st36 t k)
  have pre37 : ∀ t, Steps p.tables e below (T36.setTop (mkF m 5 #[.val (.ref a0)] [(.ref a0), (.int we)])) t → Steps p.tables e below (s₁.setTop (entryFrame m #[(.ref a0)] 1)) t := fun t k => by
    refine pre36 _ ?_
    show Steps p.tables e below (T36.setTop (mkF m 4 #[.val (.ref a0)] [(.int we)])) _
    refine XS.aloadN X36.here hx rfl (hb hby d6_4) rfl rfl ?_
    show Steps p.tables e below (T36.setTop (mkF m 5 #[.val (.ref a0)] [(.ref a0), (.int we)])) _
    exact k
  obtain ⟨T38, X38, e38, st38⟩ := getF X36 hx hZ hown (host := "") (Or.inl (hw _ (List.mem_of_getElem? (i := 23) rfl))) Via.refl e36 F_first (g := (mkF m 5 #[.val (.ref a0)] [(.ref a0), (.int we)])) rfl rfl (hb hby d6_5)
  have pre38 : ∀ t, Steps p.tables e below (T38.setTop (mkF m 8 #[.val (.ref a0)] [(.int wf), (.int we)])) t → Steps p.tables e below (s₁.setTop (entryFrame m #[(.ref a0)] 1)) t := fun t k => pre37 _ (st38 t k)
  have pre39 : ∀ t, Steps p.tables e below (T38.setTop (mkF m 11 #[.val (.ref a0)] [(.int ((we - wf) + (1 : Int32)))])) t → Steps p.tables e below (s₁.setTop (entryFrame m #[(.ref a0)] 1)) t := fun t k => by
    refine pre38 _ ?_
    show Steps p.tables e below (T38.setTop (mkF m 8 #[.val (.ref a0)] [(.int wf), (.int we)])) _
    refine XS.isub X38.here hx rfl (hb hby d6_8) rfl ?_
    show Steps p.tables e below (T38.setTop (mkF m 9 #[.val (.ref a0)] [(.int (we - wf))])) _
    refine XS.iconst X38.here hx rfl (hb hby d6_9) ?_
    show Steps p.tables e below (T38.setTop (mkF m 10 #[.val (.ref a0)] [(.int (1 : Int32)), (.int (we - wf))])) _
    refine XS.iadd X38.here hx rfl (hb hby d6_10) rfl ?_
    show Steps p.tables e below (T38.setTop (mkF m 11 #[.val (.ref a0)] [(.int ((we - wf) + (1 : Int32)))])) _
    exact k
  obtain ⟨fs, hr, hrun, hended, hW, hsame⟩ := X38.leave (v := some (.int ((we - wf) + (1 : Int32)))) (fun h => by rw [Bd.returns] at h; cases h)
  refine ⟨_, _, pre39 _ ?_, hrun, hended, _, _, rfl, ?_, ⟨_, rfl⟩, hW, hsame.mono (by decide) (by decide)⟩
  · show Steps p.tables e below (T38.setTop (mkF m 11 #[.val (.ref a0)] [(.int ((we - wf) + (1 : Int32)))])) _
    exact retI X38 hx Bd.returns (hb hby d6_11) hr
  · have hv : f6 wf we = ((we - wf) + (1 : Int32)) := by unfold f6; rfl
    show Q6 wf we h0 n0 _ T38.heap _
    rw [e38]
    exact ⟨by rw [hv], N0, rfl⟩
theorem own_x (a : Int32) : 0 ≤ ((a &&& (2147483647 : Int32)) - ((a &&& (2147483647 : Int32)) / (2147483647 : Int32)) * (2147483647 : Int32)).toInt ∧ ((a &&& (2147483647 : Int32)) - ((a &&& (2147483647 : Int32)) / (2147483647 : Int32)) * (2147483647 : Int32)).toInt < 2147483647 := by
  have e : (a &&& (2147483647 : Int32)).toInt = a.toInt % 2 ^ 31 := Jvm.Kit.i32_mask a 2147483647 (k := 31) (by decide) (by decide)
  generalize (a &&& (2147483647 : Int32)) = s at e ⊢
  have k : (2147483647 : Int32).toInt = 2147483647 := by decide
  have h0 : 0 ≤ s.toInt := by omega
  have hd : (s / (2147483647 : Int32)).toInt = s.toInt / 2147483647 := by rw [Jvm.Kit.i32_div (by omega), k, Int.tdiv_eq_ediv_of_nonneg h0]
  have hm : ((s / (2147483647 : Int32)) * (2147483647 : Int32)).toInt = s.toInt / 2147483647 * 2147483647 := by rw [Jvm.Kit.i32_mul (by rw [hd, k]; omega) (by rw [hd, k]; omega), hd, k]
  rw [Jvm.Kit.i32_sub (by omega) (by omega), hm]
  omega
theorem own_min (x y : Int32) (hx : 0 ≤ x.toInt) (hy : 0 ≤ y.toInt) (gx : x.toInt < 2147483647) (gy : y.toInt < 2147483647) : 0 ≤ (f1 x y).toInt ∧ (f1 x y).toInt ≤ (f2 x y).toInt ∧ (f2 x y).toInt < 2147483647 := by
  unfold f1 f2
  simp only [Int32.lt_iff_toInt_lt]
  by_cases q : y.toInt < x.toInt
  · rw [if_pos q, if_neg (by omega)]; omega
  · rw [if_neg q]
    by_cases r : x.toInt < y.toInt
    · rw [if_pos r]; omega
    · rw [if_neg r]; omega
theorem own_span (lo hi : Int32) (h1 : 0 ≤ lo.toInt) (h2 : lo.toInt ≤ hi.toInt) (h3 : hi.toInt < 2147483647) : ((hi.toInt64 - lo.toInt64) + (1 : Int64)).toInt = hi.toInt - lo.toInt + 1 := by
  have e1 := Int32.toInt_toInt64 lo
  have e2 := Int32.toInt_toInt64 hi
  have k : (1 : Int64).toInt = 1 := by decide
  have d : (hi.toInt64 - lo.toInt64).toInt = hi.toInt - lo.toInt := by rw [Jvm.Kit.i64_sub (by omega) (by omega), e1, e2]
  rw [Jvm.Kit.i64_add (by omega) (by omega), d, k]
theorem own_nz (lo hi : Int32) (h1 : 0 ≤ lo.toInt) (h2 : lo.toInt ≤ hi.toInt) (h3 : hi.toInt < 2147483647) : ((hi.toInt64 - lo.toInt64) + (1 : Int64)) ≠ 0 := fun q => by
  have := own_span lo hi h1 h2 h3
  rw [q] at this
  have k : (0 : Int64).toInt = 0 := by decide
  omega
theorem own_m (lo hi : Int32) (c : Int64) (h1 : 0 ≤ lo.toInt) (h2 : lo.toInt ≤ hi.toInt) (h3 : hi.toInt < 2147483647) (sp : Int64) (hs : sp = (hi.toInt64 - lo.toInt64) + (1 : Int64)) (m : Int32)
    (hm : m = ((lo.toInt64 + ((c &&& (9223372036854775807 : Int64)) - ((c &&& (9223372036854775807 : Int64)) / sp) * sp)).toInt32)) : lo.toInt ≤ m.toInt ∧ m.toInt ≤ hi.toInt := by
  have e : (c &&& (9223372036854775807 : Int64)).toInt = c.toInt % 2 ^ 63 := Jvm.Kit.i64_mask c 9223372036854775807 (k := 63) (by decide) (by decide)
  generalize (c &&& (9223372036854775807 : Int64)) = d at e hm
  have es : sp.toInt = hi.toInt - lo.toInt + 1 := by rw [hs]; exact own_span lo hi h1 h2 h3
  have er : (d - (d / sp) * sp).toInt = d.toInt % sp.toInt := Jvm.Kit.i64_rem_nonneg (by omega)
  have r1 := Int.emod_nonneg d.toInt (b := sp.toInt) (by omega)
  have r2 := Int.emod_lt_of_pos d.toInt (b := sp.toInt) (by omega)
  have el := Int32.toInt_toInt64 lo
  have ea : (lo.toInt64 + (d - (d / sp) * sp)).toInt = lo.toInt + d.toInt % sp.toInt := by rw [Jvm.Kit.i64_add (by omega) (by omega), el, er]
  have em : m.toInt = lo.toInt + d.toInt % sp.toInt := by rw [hm, Jvm.Kit.i32_of_i64 (by omega) (by omega), ea]
  omega
theorem own_days (a b : Int32) (h1 : 0 ≤ a.toInt) (h2 : a.toInt ≤ b.toInt) (h3 : b.toInt < 2147483647) : (f6 a b).toInt64.toInt = b.toInt - a.toInt + 1 := by
  have k : (1 : Int32).toInt = 1 := by decide
  have d : (b - a).toInt = b.toInt - a.toInt := by rw [Jvm.Kit.i32_sub (by omega) (by omega)]
  rw [Int32.toInt_toInt64]
  unfold f6
  rw [Jvm.Kit.i32_add (by omega) (by omega), d, k]
theorem own_law (lo hi m : Int32) (h1 : 0 ≤ lo.toInt) (h2 : hi.toInt < 2147483647) (h3 : lo.toInt ≤ m.toInt) (h4 : m.toInt ≤ hi.toInt) :
    (f6 m m).toInt64 = (1 : Int64) ∧ ¬ (f6 lo hi).toInt64 < (1 : Int64) ∧ ¬ (hi.toInt64 + (1 : Int64)) < (f6 lo hi).toInt64 ∧ ((f6 lo m).toInt64 + (f6 m hi).toInt64) = ((f6 lo hi).toInt64 + (1 : Int64)) := by
  have a := own_days m m (by omega) (by omega) (by omega)
  have b := own_days lo hi (by omega) (by omega) (by omega)
  have c := own_days lo m (by omega) (by omega) (by omega)
  have d := own_days m hi (by omega) (by omega) (by omega)
  have k : (1 : Int64).toInt = 1 := by decide
  have eh := Int32.toInt_toInt64 hi
  refine ⟨Int64.toInt_inj.mp (by rw [a, k]; omega), ?_, ?_, Int64.toInt_inj.mp ?_⟩
  · rw [Int64.lt_iff_toInt_lt, b, k]; omega
  · rw [Int64.lt_iff_toInt_lt, b, Jvm.Kit.i64_add (by omega) (by omega), eh, k]; omega
  · rw [Jvm.Kit.i64_add (by omega) (by omega), Jvm.Kit.i64_add (by omega) (by omega), b, c, d, k]; omega
theorem pn_0 : plainName "com/example/novation/novation/risk/BacktestDaysPinLaw" = true := by first | (simp [plainName, overriddenIn]; done) | decide +kernel
theorem ef_0 (m : MethodId) (x0 : Int32) (x1 : Int32) (x2 : Int64) (x3 : Int32) (x4 : Int32) : entryFrame m #[(.int x0), (.int x1), (.long x2), (.int x3), (.int x4)] maxLocals = mkF m 0 #[.val (.int x0), .val (.int x1), .val (.long x2), .second, .val (.int x3), .val (.int x4), .unset, .unset, .unset, .unset, .unset, .unset, .unset, .unset, .unset, .unset, .unset, .unset, .unset, .unset, .unset, .unset, .unset, .unset, .unset] [] := by first | (simp [entryFrame, mkF, argsToLocals, Value.category, maxLocals]; done) | rfl
def Q0 (av : Int32) (bv : Int32) (cv : Int64) (lb : Int32) (sb : Int32) (h0 : Heap) (n0 : Nat) (v : Option Value) (h : Heap) (L : List Loc) : Prop := v = some (.int (1 : Int32)) ∧ Fr n0 L
set_option maxRecDepth 65536 in
set_option maxHeartbeats 40000000 in
theorem rm0 (l : Launch) (Z : State) (aZ : Array Value) (hw : ∀ d ∈ tables_1, d.before aZ Z = true) (ws : List Jvm.Cond) (av : Int32) (bv : Int32) (cv : Int64) (lb : Int32) (sb : Int32)  (h0 : Heap) (n0 : Nat) (Z0 : n0 ≤ h0.size)  :
    MetFree l x (head1 (Jvm.Cond.code x code maxLocals ret :: ws) room_1) (fun a U => a = #[(.int av), (.int bv), (.long cv), (.int lb), (.int sb)] ∧ Z.Warmed39 U.vm ∧ U.heap = h0) (fun _ _ _ _ _ => True) (fun _ U o U' => ∃ v L, o = .returned v ∧ Q0 av bv cv lb sb h0 n0 v U'.heap L ∧ FrameEnd U o U' L room_1.cells room_1.slots) := by
  refine MetFree.of_bodySF (plainFor_of_name pn_0) hisR ?_
  intro p e s m args below meth c s₁ Bd hml0 hP hK
  obtain ⟨rfl, hZ, hh⟩ := hP
  have hx := Bd.exec
  have hby := Bd.bytes
  have hml : c.maxLocals = 25 := hml0
  have hown : s.vm.findClass "com/example/novation/novation/risk/BacktestDaysPinLaw" = some m.cls := findClass_of_methodNamed Bd.named
  have hnm := (name_of_methodNamed Bd.named Bd.method).1
  have X0 : Stand p l e room_1 s m #[(.int av), (.int bv), (.long cv), (.int lb), (.int sb)] below meth c s₁ [] 0 0 := Stand.of_body Bd
  have e0 : s₁.heap = h0 := by rw [← hh, Bd.state]; rfl
  have N0 := Fr.nil n0
  have pre0 : ∀ t, Steps p.tables e below (s₁.setTop (mkF m 0 #[.val (.int av), .val (.int bv), .val (.long cv), .second, .val (.int lb), .val (.int sb), .unset, .unset, .unset, .unset, .unset, .unset, .unset, .unset, .unset, .unset, .unset, .unset, .unset, .unset, .unset, .unset, .unset, .unset, .unset] [])) t → Steps p.tables e below (s₁.setTop (entryFrame m #[(.int av), (.int bv), (.long cv), (.int lb), (.int sb)] maxLocals)) t := fun t k => castTop (ef_0 m av bv cv lb sb) k
  have pre40 : ∀ t, Steps p.tables e below (s₁.setTop (mkF m 18 #[.val (.int av), .val (.int bv), .val (.long cv), .second, .val (.int lb), .val (.int sb), .val (.int ((av &&& (2147483647 : Int32)) - ((av &&& (2147483647 : Int32)) / (2147483647 : Int32)) * (2147483647 : Int32))), .val (.int ((bv &&& (2147483647 : Int32)) - ((bv &&& (2147483647 : Int32)) / (2147483647 : Int32)) * (2147483647 : Int32))), .unset, .unset, .unset, .unset, .unset, .unset, .unset, .unset, .unset, .unset, .unset, .unset, .unset, .unset, .unset, .unset, .unset] [])) t → Steps p.tables e below (s₁.setTop (entryFrame m #[(.int av), (.int bv), (.long cv), (.int lb), (.int sb)] maxLocals)) t := fun t k => by
    refine pre0 _ ?_
    show Steps p.tables e below (s₁.setTop (mkF m 0 #[.val (.int av), .val (.int bv), .val (.long cv), .second, .val (.int lb), .val (.int sb), .unset, .unset, .unset, .unset, .unset, .unset, .unset, .unset, .unset, .unset, .unset, .unset, .unset, .unset, .unset, .unset, .unset, .unset, .unset] [])) _
    refine XS.iloadN X0.here hx rfl (hb hby at_0) rfl ?_
    show Steps p.tables e below (s₁.setTop (mkF m 1 #[.val (.int av), .val (.int bv), .val (.long cv), .second, .val (.int lb), .val (.int sb), .unset, .unset, .unset, .unset, .unset, .unset, .unset, .unset, .unset, .unset, .unset, .unset, .unset, .unset, .unset, .unset, .unset, .unset, .unset] [(.int av)])) _
    refine X0.ldcInt hx hown (mvT hZ (hw _ (List.mem_of_getElem? (i := 0) rfl))) (g := (mkF m 1 #[.val (.int av), .val (.int bv), .val (.long cv), .second, .val (.int lb), .val (.int sb), .unset, .unset, .unset, .unset, .unset, .unset, .unset, .unset, .unset, .unset, .unset, .unset, .unset, .unset, .unset, .unset, .unset, .unset, .unset] [(.int av)])) rfl (hb hby at_1) _ ?_
    show Steps p.tables e below (s₁.setTop (mkF m 3 #[.val (.int av), .val (.int bv), .val (.long cv), .second, .val (.int lb), .val (.int sb), .unset, .unset, .unset, .unset, .unset, .unset, .unset, .unset, .unset, .unset, .unset, .unset, .unset, .unset, .unset, .unset, .unset, .unset, .unset] [(.int (2147483647 : Int32)), (.int av)])) _
    refine XS.iand X0.here hx rfl (hb hby at_3) rfl ?_
    show Steps p.tables e below (s₁.setTop (mkF m 4 #[.val (.int av), .val (.int bv), .val (.long cv), .second, .val (.int lb), .val (.int sb), .unset, .unset, .unset, .unset, .unset, .unset, .unset, .unset, .unset, .unset, .unset, .unset, .unset, .unset, .unset, .unset, .unset, .unset, .unset] [(.int (av &&& (2147483647 : Int32)))])) _
    refine X0.ldcInt hx hown (mvT hZ (hw _ (List.mem_of_getElem? (i := 0) rfl))) (g := (mkF m 4 #[.val (.int av), .val (.int bv), .val (.long cv), .second, .val (.int lb), .val (.int sb), .unset, .unset, .unset, .unset, .unset, .unset, .unset, .unset, .unset, .unset, .unset, .unset, .unset, .unset, .unset, .unset, .unset, .unset, .unset] [(.int (av &&& (2147483647 : Int32)))])) rfl (hb hby at_4) _ ?_
    show Steps p.tables e below (s₁.setTop (mkF m 6 #[.val (.int av), .val (.int bv), .val (.long cv), .second, .val (.int lb), .val (.int sb), .unset, .unset, .unset, .unset, .unset, .unset, .unset, .unset, .unset, .unset, .unset, .unset, .unset, .unset, .unset, .unset, .unset, .unset, .unset] [(.int (2147483647 : Int32)), (.int (av &&& (2147483647 : Int32)))])) _
    refine XS.irem X0.here hx rfl (hb hby at_6) rfl (by decide) ?_
    show Steps p.tables e below (s₁.setTop (mkF m 7 #[.val (.int av), .val (.int bv), .val (.long cv), .second, .val (.int lb), .val (.int sb), .unset, .unset, .unset, .unset, .unset, .unset, .unset, .unset, .unset, .unset, .unset, .unset, .unset, .unset, .unset, .unset, .unset, .unset, .unset] [(.int ((av &&& (2147483647 : Int32)) - ((av &&& (2147483647 : Int32)) / (2147483647 : Int32)) * (2147483647 : Int32)))])) _
    refine XS.istore X0.here hx rfl (hb hby at_7) rfl (l' := #[.val (.int av), .val (.int bv), .val (.long cv), .second, .val (.int lb), .val (.int sb), .val (.int ((av &&& (2147483647 : Int32)) - ((av &&& (2147483647 : Int32)) / (2147483647 : Int32)) * (2147483647 : Int32))), .unset, .unset, .unset, .unset, .unset, .unset, .unset, .unset, .unset, .unset, .unset, .unset, .unset, .unset, .unset, .unset, .unset, .unset]) rfl ?_
    show Steps p.tables e below (s₁.setTop (mkF m 9 #[.val (.int av), .val (.int bv), .val (.long cv), .second, .val (.int lb), .val (.int sb), .val (.int ((av &&& (2147483647 : Int32)) - ((av &&& (2147483647 : Int32)) / (2147483647 : Int32)) * (2147483647 : Int32))), .unset, .unset, .unset, .unset, .unset, .unset, .unset, .unset, .unset, .unset, .unset, .unset, .unset, .unset, .unset, .unset, .unset, .unset] [])) _
    refine XS.iloadN X0.here hx rfl (hb hby at_9) rfl ?_
    show Steps p.tables e below (s₁.setTop (mkF m 10 #[.val (.int av), .val (.int bv), .val (.long cv), .second, .val (.int lb), .val (.int sb), .val (.int ((av &&& (2147483647 : Int32)) - ((av &&& (2147483647 : Int32)) / (2147483647 : Int32)) * (2147483647 : Int32))), .unset, .unset, .unset, .unset, .unset, .unset, .unset, .unset, .unset, .unset, .unset, .unset, .unset, .unset, .unset, .unset, .unset, .unset] [(.int bv)])) _
    refine X0.ldcInt hx hown (mvT hZ (hw _ (List.mem_of_getElem? (i := 0) rfl))) (g := (mkF m 10 #[.val (.int av), .val (.int bv), .val (.long cv), .second, .val (.int lb), .val (.int sb), .val (.int ((av &&& (2147483647 : Int32)) - ((av &&& (2147483647 : Int32)) / (2147483647 : Int32)) * (2147483647 : Int32))), .unset, .unset, .unset, .unset, .unset, .unset, .unset, .unset, .unset, .unset, .unset, .unset, .unset, .unset, .unset, .unset, .unset, .unset] [(.int bv)])) rfl (hb hby at_10) _ ?_
    show Steps p.tables e below (s₁.setTop (mkF m 12 #[.val (.int av), .val (.int bv), .val (.long cv), .second, .val (.int lb), .val (.int sb), .val (.int ((av &&& (2147483647 : Int32)) - ((av &&& (2147483647 : Int32)) / (2147483647 : Int32)) * (2147483647 : Int32))), .unset, .unset, .unset, .unset, .unset, .unset, .unset, .unset, .unset, .unset, .unset, .unset, .unset, .unset, .unset, .unset, .unset, .unset] [(.int (2147483647 : Int32)), (.int bv)])) _
    refine XS.iand X0.here hx rfl (hb hby at_12) rfl ?_
    show Steps p.tables e below (s₁.setTop (mkF m 13 #[.val (.int av), .val (.int bv), .val (.long cv), .second, .val (.int lb), .val (.int sb), .val (.int ((av &&& (2147483647 : Int32)) - ((av &&& (2147483647 : Int32)) / (2147483647 : Int32)) * (2147483647 : Int32))), .unset, .unset, .unset, .unset, .unset, .unset, .unset, .unset, .unset, .unset, .unset, .unset, .unset, .unset, .unset, .unset, .unset, .unset] [(.int (bv &&& (2147483647 : Int32)))])) _
    refine X0.ldcInt hx hown (mvT hZ (hw _ (List.mem_of_getElem? (i := 0) rfl))) (g := (mkF m 13 #[.val (.int av), .val (.int bv), .val (.long cv), .second, .val (.int lb), .val (.int sb), .val (.int ((av &&& (2147483647 : Int32)) - ((av &&& (2147483647 : Int32)) / (2147483647 : Int32)) * (2147483647 : Int32))), .unset, .unset, .unset, .unset, .unset, .unset, .unset, .unset, .unset, .unset, .unset, .unset, .unset, .unset, .unset, .unset, .unset, .unset] [(.int (bv &&& (2147483647 : Int32)))])) rfl (hb hby at_13) _ ?_
    show Steps p.tables e below (s₁.setTop (mkF m 15 #[.val (.int av), .val (.int bv), .val (.long cv), .second, .val (.int lb), .val (.int sb), .val (.int ((av &&& (2147483647 : Int32)) - ((av &&& (2147483647 : Int32)) / (2147483647 : Int32)) * (2147483647 : Int32))), .unset, .unset, .unset, .unset, .unset, .unset, .unset, .unset, .unset, .unset, .unset, .unset, .unset, .unset, .unset, .unset, .unset, .unset] [(.int (2147483647 : Int32)), (.int (bv &&& (2147483647 : Int32)))])) _
    refine XS.irem X0.here hx rfl (hb hby at_15) rfl (by decide) ?_
    show Steps p.tables e below (s₁.setTop (mkF m 16 #[.val (.int av), .val (.int bv), .val (.long cv), .second, .val (.int lb), .val (.int sb), .val (.int ((av &&& (2147483647 : Int32)) - ((av &&& (2147483647 : Int32)) / (2147483647 : Int32)) * (2147483647 : Int32))), .unset, .unset, .unset, .unset, .unset, .unset, .unset, .unset, .unset, .unset, .unset, .unset, .unset, .unset, .unset, .unset, .unset, .unset] [(.int ((bv &&& (2147483647 : Int32)) - ((bv &&& (2147483647 : Int32)) / (2147483647 : Int32)) * (2147483647 : Int32)))])) _
    refine XS.istore X0.here hx rfl (hb hby at_16) rfl (l' := #[.val (.int av), .val (.int bv), .val (.long cv), .second, .val (.int lb), .val (.int sb), .val (.int ((av &&& (2147483647 : Int32)) - ((av &&& (2147483647 : Int32)) / (2147483647 : Int32)) * (2147483647 : Int32))), .val (.int ((bv &&& (2147483647 : Int32)) - ((bv &&& (2147483647 : Int32)) / (2147483647 : Int32)) * (2147483647 : Int32))), .unset, .unset, .unset, .unset, .unset, .unset, .unset, .unset, .unset, .unset, .unset, .unset, .unset, .unset, .unset, .unset, .unset]) rfl ?_
    show Steps p.tables e below (s₁.setTop (mkF m 18 #[.val (.int av), .val (.int bv), .val (.long cv), .second, .val (.int lb), .val (.int sb), .val (.int ((av &&& (2147483647 : Int32)) - ((av &&& (2147483647 : Int32)) / (2147483647 : Int32)) * (2147483647 : Int32))), .val (.int ((bv &&& (2147483647 : Int32)) - ((bv &&& (2147483647 : Int32)) / (2147483647 : Int32)) * (2147483647 : Int32))), .unset, .unset, .unset, .unset, .unset, .unset, .unset, .unset, .unset, .unset, .unset, .unset, .unset, .unset, .unset, .unset, .unset] [])) _
    exact k
  obtain ⟨xv, e_xv⟩ : ∃ z : Int32, z = ((av &&& (2147483647 : Int32)) - ((av &&& (2147483647 : Int32)) / (2147483647 : Int32)) * (2147483647 : Int32)) := ⟨_, rfl⟩
  have pre41 : ∀ t, Steps p.tables e below (s₁.setTop (mkF m 18 #[.val (.int av), .val (.int bv), .val (.long cv), .second, .val (.int lb), .val (.int sb), .val (.int xv), .val (.int ((bv &&& (2147483647 : Int32)) - ((bv &&& (2147483647 : Int32)) / (2147483647 : Int32)) * (2147483647 : Int32))), .unset, .unset, .unset, .unset, .unset, .unset, .unset, .unset, .unset, .unset, .unset, .unset, .unset, .unset, .unset, .unset, .unset] [])) t → Steps p.tables e below (s₁.setTop (entryFrame m #[(.int av), (.int bv), (.long cv), (.int lb), (.int sb)] maxLocals)) t := by rw [e_xv]; exact pre40
  obtain ⟨yv, e_yv⟩ : ∃ z : Int32, z = ((bv &&& (2147483647 : Int32)) - ((bv &&& (2147483647 : Int32)) / (2147483647 : Int32)) * (2147483647 : Int32)) := ⟨_, rfl⟩
  have pre42 : ∀ t, Steps p.tables e below (s₁.setTop (mkF m 18 #[.val (.int av), .val (.int bv), .val (.long cv), .second, .val (.int lb), .val (.int sb), .val (.int xv), .val (.int yv), .unset, .unset, .unset, .unset, .unset, .unset, .unset, .unset, .unset, .unset, .unset, .unset, .unset, .unset, .unset, .unset, .unset] [])) t → Steps p.tables e below (s₁.setTop (entryFrame m #[(.int av), (.int bv), (.long cv), (.int lb), (.int sb)] maxLocals)) t := by rw [e_yv]; exact pre41
  have pre43 : ∀ t, Steps p.tables e below (s₁.setTop (mkF m 22 #[.val (.int av), .val (.int bv), .val (.long cv), .second, .val (.int lb), .val (.int sb), .val (.int xv), .val (.int yv), .unset, .unset, .unset, .unset, .unset, .unset, .unset, .unset, .unset, .unset, .unset, .unset, .unset, .unset, .unset, .unset, .unset] [(.int yv), (.int xv)])) t → Steps p.tables e below (s₁.setTop (entryFrame m #[(.int av), (.int bv), (.long cv), (.int lb), (.int sb)] maxLocals)) t := fun t k => by
    refine pre42 _ ?_
    show Steps p.tables e below (s₁.setTop (mkF m 18 #[.val (.int av), .val (.int bv), .val (.long cv), .second, .val (.int lb), .val (.int sb), .val (.int xv), .val (.int yv), .unset, .unset, .unset, .unset, .unset, .unset, .unset, .unset, .unset, .unset, .unset, .unset, .unset, .unset, .unset, .unset, .unset] [])) _
    refine XS.iload X0.here hx rfl (hb hby at_18) rfl ?_
    show Steps p.tables e below (s₁.setTop (mkF m 20 #[.val (.int av), .val (.int bv), .val (.long cv), .second, .val (.int lb), .val (.int sb), .val (.int xv), .val (.int yv), .unset, .unset, .unset, .unset, .unset, .unset, .unset, .unset, .unset, .unset, .unset, .unset, .unset, .unset, .unset, .unset, .unset] [(.int xv)])) _
    refine XS.iload X0.here hx rfl (hb hby at_20) rfl ?_
    show Steps p.tables e below (s₁.setTop (mkF m 22 #[.val (.int av), .val (.int bv), .val (.long cv), .second, .val (.int lb), .val (.int sb), .val (.int xv), .val (.int yv), .unset, .unset, .unset, .unset, .unset, .unset, .unset, .unset, .unset, .unset, .unset, .unset, .unset, .unset, .unset, .unset, .unset] [(.int yv), (.int xv)])) _
    exact k
  obtain ⟨_, _, ⟨T44, L44, k44, n44⟩, -, X44, ⟨Lc44, hQ44, l44, y44, z44⟩, st44⟩ := Jvm.LawKit.callS X0 hx (y := (⟨"java/lang/Math", "min", "(II)I"⟩ : MethodName)) hown (mvT hZ (hw _ (List.mem_of_getElem? (i := 1) rfl))) (mvT hZ (hw _ (List.mem_of_getElem? (i := 2) rfl))) (mvT hZ (hw _ (List.mem_of_getElem? (i := 3) rfl))) (mvT hZ (hw _ (List.mem_of_getElem? (i := 4) rfl))) (by decide) (backOf (W := 0) (rm1 l Z aZ hw [] xv yv  h0 n0 Z0 ) hZ (hw _ (List.mem_of_getElem? (i := 4) rfl)) (hw _ (List.mem_of_getElem? (i := 3) rfl)) (by decide) (by decide)) (g := (mkF m 22 #[.val (.int av), .val (.int bv), .val (.long cv), .second, .val (.int lb), .val (.int sb), .val (.int xv), .val (.int yv), .unset, .unset, .unset, .unset, .unset, .unset, .unset, .unset, .unset, .unset, .unset, .unset, .unset, .unset, .unset, .unset, .unset] [(.int yv), (.int xv)])) rfl (by rw [hml]; rfl) (argsL := [(.int xv), (.int yv)]) (rest := []) (lenOf pd_0 rfl) rfl (by show 2 * 0 + _ ≤ _; exact Nat.le_of_eq rfl) (hb hby at_22) (fun _ _ => ⟨rfl, e0, (by decide : 0 + 0 ≤ _), (by decide : 0 + 0 ≤ _)⟩)
  dsimp only [Pt.U, Pt.locs, Pt.cells, Pt.slots] at X44 l44 y44 z44 st44 hQ44
  subst l44 y44 z44
  obtain ⟨rfl, N44q, e44⟩ := hQ44
  have N44 := Fr.app N0 N44q
  have pre44 : ∀ t, Steps p.tables e below (T44.setTop (mkF m 25 #[.val (.int av), .val (.int bv), .val (.long cv), .second, .val (.int lb), .val (.int sb), .val (.int xv), .val (.int yv), .unset, .unset, .unset, .unset, .unset, .unset, .unset, .unset, .unset, .unset, .unset, .unset, .unset, .unset, .unset, .unset, .unset] [(.int (f1 xv yv))])) t → Steps p.tables e below (s₁.setTop (entryFrame m #[(.int av), (.int bv), (.long cv), (.int lb), (.int sb)] maxLocals)) t := fun t k => pre43 _ (st44 t k)
  have pre45 : ∀ t, Steps p.tables e below (T44.setTop (mkF m 27 #[.val (.int av), .val (.int bv), .val (.long cv), .second, .val (.int lb), .val (.int sb), .val (.int xv), .val (.int yv), .val (.int (f1 xv yv)), .unset, .unset, .unset, .unset, .unset, .unset, .unset, .unset, .unset, .unset, .unset, .unset, .unset, .unset, .unset, .unset] [])) t → Steps p.tables e below (s₁.setTop (entryFrame m #[(.int av), (.int bv), (.long cv), (.int lb), (.int sb)] maxLocals)) t := fun t k => by
    refine pre44 _ ?_
    show Steps p.tables e below (T44.setTop (mkF m 25 #[.val (.int av), .val (.int bv), .val (.long cv), .second, .val (.int lb), .val (.int sb), .val (.int xv), .val (.int yv), .unset, .unset, .unset, .unset, .unset, .unset, .unset, .unset, .unset, .unset, .unset, .unset, .unset, .unset, .unset, .unset, .unset] [(.int (f1 xv yv))])) _
    refine XS.istore X44.here hx rfl (hb hby at_25) rfl (l' := #[.val (.int av), .val (.int bv), .val (.long cv), .second, .val (.int lb), .val (.int sb), .val (.int xv), .val (.int yv), .val (.int (f1 xv yv)), .unset, .unset, .unset, .unset, .unset, .unset, .unset, .unset, .unset, .unset, .unset, .unset, .unset, .unset, .unset, .unset]) rfl ?_
    show Steps p.tables e below (T44.setTop (mkF m 27 #[.val (.int av), .val (.int bv), .val (.long cv), .second, .val (.int lb), .val (.int sb), .val (.int xv), .val (.int yv), .val (.int (f1 xv yv)), .unset, .unset, .unset, .unset, .unset, .unset, .unset, .unset, .unset, .unset, .unset, .unset, .unset, .unset, .unset, .unset] [])) _
    exact k
  have pre46 : ∀ t, Steps p.tables e below (T44.setTop (mkF m 31 #[.val (.int av), .val (.int bv), .val (.long cv), .second, .val (.int lb), .val (.int sb), .val (.int xv), .val (.int yv), .val (.int (f1 xv yv)), .unset, .unset, .unset, .unset, .unset, .unset, .unset, .unset, .unset, .unset, .unset, .unset, .unset, .unset, .unset, .unset] [(.int yv), (.int xv)])) t → Steps p.tables e below (s₁.setTop (entryFrame m #[(.int av), (.int bv), (.long cv), (.int lb), (.int sb)] maxLocals)) t := fun t k => by
    refine pre45 _ ?_
    show Steps p.tables e below (T44.setTop (mkF m 27 #[.val (.int av), .val (.int bv), .val (.long cv), .second, .val (.int lb), .val (.int sb), .val (.int xv), .val (.int yv), .val (.int (f1 xv yv)), .unset, .unset, .unset, .unset, .unset, .unset, .unset, .unset, .unset, .unset, .unset, .unset, .unset, .unset, .unset, .unset] [])) _
    refine XS.iload X44.here hx rfl (hb hby at_27) rfl ?_
    show Steps p.tables e below (T44.setTop (mkF m 29 #[.val (.int av), .val (.int bv), .val (.long cv), .second, .val (.int lb), .val (.int sb), .val (.int xv), .val (.int yv), .val (.int (f1 xv yv)), .unset, .unset, .unset, .unset, .unset, .unset, .unset, .unset, .unset, .unset, .unset, .unset, .unset, .unset, .unset, .unset] [(.int xv)])) _
    refine XS.iload X44.here hx rfl (hb hby at_29) rfl ?_
    show Steps p.tables e below (T44.setTop (mkF m 31 #[.val (.int av), .val (.int bv), .val (.long cv), .second, .val (.int lb), .val (.int sb), .val (.int xv), .val (.int yv), .val (.int (f1 xv yv)), .unset, .unset, .unset, .unset, .unset, .unset, .unset, .unset, .unset, .unset, .unset, .unset, .unset, .unset, .unset, .unset] [(.int yv), (.int xv)])) _
    exact k
  obtain ⟨_, _, ⟨T47, L47, k47, n47⟩, -, X47, ⟨Lc47, hQ47, l47, y47, z47⟩, st47⟩ := Jvm.LawKit.callS X44 hx (y := (⟨"java/lang/Math", "max", "(II)I"⟩ : MethodName)) hown (mvT hZ (hw _ (List.mem_of_getElem? (i := 5) rfl))) (mvT hZ (hw _ (List.mem_of_getElem? (i := 6) rfl))) (mvT hZ (hw _ (List.mem_of_getElem? (i := 3) rfl))) (mvT hZ (hw _ (List.mem_of_getElem? (i := 7) rfl))) (by decide) (backOf (W := 0) (rm2 l Z aZ hw [] xv yv  h0 n0 Z0 ) hZ (hw _ (List.mem_of_getElem? (i := 7) rfl)) (hw _ (List.mem_of_getElem? (i := 3) rfl)) (by decide) (by decide)) (g := (mkF m 31 #[.val (.int av), .val (.int bv), .val (.long cv), .second, .val (.int lb), .val (.int sb), .val (.int xv), .val (.int yv), .val (.int (f1 xv yv)), .unset, .unset, .unset, .unset, .unset, .unset, .unset, .unset, .unset, .unset, .unset, .unset, .unset, .unset, .unset, .unset] [(.int yv), (.int xv)])) rfl (by rw [hml]; rfl) (argsL := [(.int xv), (.int yv)]) (rest := []) (lenOf pd_0 rfl) rfl (by show 2 * 0 + _ ≤ _; exact Nat.le_of_eq rfl) (hb hby at_31) (fun _ _ => ⟨rfl, e44, (by decide : 0 + 0 ≤ _), (by decide : 0 + 0 ≤ _)⟩)
  dsimp only [Pt.U, Pt.locs, Pt.cells, Pt.slots] at X47 l47 y47 z47 st47 hQ47
  subst l47 y47 z47
  obtain ⟨rfl, N47q, e47⟩ := hQ47
  have N47 := Fr.app N44 N47q
  have pre47 : ∀ t, Steps p.tables e below (T47.setTop (mkF m 34 #[.val (.int av), .val (.int bv), .val (.long cv), .second, .val (.int lb), .val (.int sb), .val (.int xv), .val (.int yv), .val (.int (f1 xv yv)), .unset, .unset, .unset, .unset, .unset, .unset, .unset, .unset, .unset, .unset, .unset, .unset, .unset, .unset, .unset, .unset] [(.int (f2 xv yv))])) t → Steps p.tables e below (s₁.setTop (entryFrame m #[(.int av), (.int bv), (.long cv), (.int lb), (.int sb)] maxLocals)) t := fun t k => pre46 _ (st47 t k)
  have pre48 : ∀ t, Steps p.tables e below (T47.setTop (mkF m 36 #[.val (.int av), .val (.int bv), .val (.long cv), .second, .val (.int lb), .val (.int sb), .val (.int xv), .val (.int yv), .val (.int (f1 xv yv)), .val (.int (f2 xv yv)), .unset, .unset, .unset, .unset, .unset, .unset, .unset, .unset, .unset, .unset, .unset, .unset, .unset, .unset, .unset] [])) t → Steps p.tables e below (s₁.setTop (entryFrame m #[(.int av), (.int bv), (.long cv), (.int lb), (.int sb)] maxLocals)) t := fun t k => by
    refine pre47 _ ?_
    show Steps p.tables e below (T47.setTop (mkF m 34 #[.val (.int av), .val (.int bv), .val (.long cv), .second, .val (.int lb), .val (.int sb), .val (.int xv), .val (.int yv), .val (.int (f1 xv yv)), .unset, .unset, .unset, .unset, .unset, .unset, .unset, .unset, .unset, .unset, .unset, .unset, .unset, .unset, .unset, .unset] [(.int (f2 xv yv))])) _
    refine XS.istore X47.here hx rfl (hb hby at_34) rfl (l' := #[.val (.int av), .val (.int bv), .val (.long cv), .second, .val (.int lb), .val (.int sb), .val (.int xv), .val (.int yv), .val (.int (f1 xv yv)), .val (.int (f2 xv yv)), .unset, .unset, .unset, .unset, .unset, .unset, .unset, .unset, .unset, .unset, .unset, .unset, .unset, .unset, .unset]) rfl ?_
    show Steps p.tables e below (T47.setTop (mkF m 36 #[.val (.int av), .val (.int bv), .val (.long cv), .second, .val (.int lb), .val (.int sb), .val (.int xv), .val (.int yv), .val (.int (f1 xv yv)), .val (.int (f2 xv yv)), .unset, .unset, .unset, .unset, .unset, .unset, .unset, .unset, .unset, .unset, .unset, .unset, .unset, .unset, .unset] [])) _
    exact k
  obtain ⟨lov, e_lov⟩ : ∃ z : Int32, z = (f1 xv yv) := ⟨_, rfl⟩
  have pre49 : ∀ t, Steps p.tables e below (T47.setTop (mkF m 36 #[.val (.int av), .val (.int bv), .val (.long cv), .second, .val (.int lb), .val (.int sb), .val (.int xv), .val (.int yv), .val (.int lov), .val (.int (f2 xv yv)), .unset, .unset, .unset, .unset, .unset, .unset, .unset, .unset, .unset, .unset, .unset, .unset, .unset, .unset, .unset] [])) t → Steps p.tables e below (s₁.setTop (entryFrame m #[(.int av), (.int bv), (.long cv), (.int lb), (.int sb)] maxLocals)) t := by rw [e_lov]; exact pre48
  obtain ⟨hiv, e_hiv⟩ : ∃ z : Int32, z = (f2 xv yv) := ⟨_, rfl⟩
  have pre50 : ∀ t, Steps p.tables e below (T47.setTop (mkF m 36 #[.val (.int av), .val (.int bv), .val (.long cv), .second, .val (.int lb), .val (.int sb), .val (.int xv), .val (.int yv), .val (.int lov), .val (.int hiv), .unset, .unset, .unset, .unset, .unset, .unset, .unset, .unset, .unset, .unset, .unset, .unset, .unset, .unset, .unset] [])) t → Steps p.tables e below (s₁.setTop (entryFrame m #[(.int av), (.int bv), (.long cv), (.int lb), (.int sb)] maxLocals)) t := by rw [e_hiv]; exact pre49
  have hx1 := own_x av
  have hy1 := own_x bv
  rw [← e_xv] at hx1
  rw [← e_yv] at hy1
  have hbd := own_min xv yv hx1.1 hy1.1 hx1.2 hy1.2
  rw [← e_lov, ← e_hiv] at hbd
  have pre51 : ∀ t, Steps p.tables e below (T47.setTop (mkF m 47 #[.val (.int av), .val (.int bv), .val (.long cv), .second, .val (.int lb), .val (.int sb), .val (.int xv), .val (.int yv), .val (.int lov), .val (.int hiv), .val (.long (((hiv.toInt64) - (lov.toInt64)) + (1 : Int64))), .second, .unset, .unset, .unset, .unset, .unset, .unset, .unset, .unset, .unset, .unset, .unset, .unset, .unset] [])) t → Steps p.tables e below (s₁.setTop (entryFrame m #[(.int av), (.int bv), (.long cv), (.int lb), (.int sb)] maxLocals)) t := fun t k => by
    refine pre50 _ ?_
    show Steps p.tables e below (T47.setTop (mkF m 36 #[.val (.int av), .val (.int bv), .val (.long cv), .second, .val (.int lb), .val (.int sb), .val (.int xv), .val (.int yv), .val (.int lov), .val (.int hiv), .unset, .unset, .unset, .unset, .unset, .unset, .unset, .unset, .unset, .unset, .unset, .unset, .unset, .unset, .unset] [])) _
    refine XS.iload X47.here hx rfl (hb hby at_36) rfl ?_
    show Steps p.tables e below (T47.setTop (mkF m 38 #[.val (.int av), .val (.int bv), .val (.long cv), .second, .val (.int lb), .val (.int sb), .val (.int xv), .val (.int yv), .val (.int lov), .val (.int hiv), .unset, .unset, .unset, .unset, .unset, .unset, .unset, .unset, .unset, .unset, .unset, .unset, .unset, .unset, .unset] [(.int hiv)])) _
    refine XS.i2l X47.here hx rfl (hb hby at_38) rfl ?_
    show Steps p.tables e below (T47.setTop (mkF m 39 #[.val (.int av), .val (.int bv), .val (.long cv), .second, .val (.int lb), .val (.int sb), .val (.int xv), .val (.int yv), .val (.int lov), .val (.int hiv), .unset, .unset, .unset, .unset, .unset, .unset, .unset, .unset, .unset, .unset, .unset, .unset, .unset, .unset, .unset] [(.long (hiv.toInt64))])) _
    refine XS.iload X47.here hx rfl (hb hby at_39) rfl ?_
    show Steps p.tables e below (T47.setTop (mkF m 41 #[.val (.int av), .val (.int bv), .val (.long cv), .second, .val (.int lb), .val (.int sb), .val (.int xv), .val (.int yv), .val (.int lov), .val (.int hiv), .unset, .unset, .unset, .unset, .unset, .unset, .unset, .unset, .unset, .unset, .unset, .unset, .unset, .unset, .unset] [(.int lov), (.long (hiv.toInt64))])) _
    refine XS.i2l X47.here hx rfl (hb hby at_41) rfl ?_
    show Steps p.tables e below (T47.setTop (mkF m 42 #[.val (.int av), .val (.int bv), .val (.long cv), .second, .val (.int lb), .val (.int sb), .val (.int xv), .val (.int yv), .val (.int lov), .val (.int hiv), .unset, .unset, .unset, .unset, .unset, .unset, .unset, .unset, .unset, .unset, .unset, .unset, .unset, .unset, .unset] [(.long (lov.toInt64)), (.long (hiv.toInt64))])) _
    refine XS.lsub X47.here hx rfl (hb hby at_42) rfl ?_
    show Steps p.tables e below (T47.setTop (mkF m 43 #[.val (.int av), .val (.int bv), .val (.long cv), .second, .val (.int lb), .val (.int sb), .val (.int xv), .val (.int yv), .val (.int lov), .val (.int hiv), .unset, .unset, .unset, .unset, .unset, .unset, .unset, .unset, .unset, .unset, .unset, .unset, .unset, .unset, .unset] [(.long ((hiv.toInt64) - (lov.toInt64)))])) _
    refine XS.lconst X47.here hx rfl (hb hby at_43) ?_
    show Steps p.tables e below (T47.setTop (mkF m 44 #[.val (.int av), .val (.int bv), .val (.long cv), .second, .val (.int lb), .val (.int sb), .val (.int xv), .val (.int yv), .val (.int lov), .val (.int hiv), .unset, .unset, .unset, .unset, .unset, .unset, .unset, .unset, .unset, .unset, .unset, .unset, .unset, .unset, .unset] [(.long (1 : Int64)), (.long ((hiv.toInt64) - (lov.toInt64)))])) _
    refine XS.ladd X47.here hx rfl (hb hby at_44) rfl ?_
    show Steps p.tables e below (T47.setTop (mkF m 45 #[.val (.int av), .val (.int bv), .val (.long cv), .second, .val (.int lb), .val (.int sb), .val (.int xv), .val (.int yv), .val (.int lov), .val (.int hiv), .unset, .unset, .unset, .unset, .unset, .unset, .unset, .unset, .unset, .unset, .unset, .unset, .unset, .unset, .unset] [(.long (((hiv.toInt64) - (lov.toInt64)) + (1 : Int64)))])) _
    refine XS.lstore X47.here hx rfl (hb hby at_45) rfl (l' := #[.val (.int av), .val (.int bv), .val (.long cv), .second, .val (.int lb), .val (.int sb), .val (.int xv), .val (.int yv), .val (.int lov), .val (.int hiv), .val (.long (((hiv.toInt64) - (lov.toInt64)) + (1 : Int64))), .second, .unset, .unset, .unset, .unset, .unset, .unset, .unset, .unset, .unset, .unset, .unset, .unset, .unset]) rfl ?_
    show Steps p.tables e below (T47.setTop (mkF m 47 #[.val (.int av), .val (.int bv), .val (.long cv), .second, .val (.int lb), .val (.int sb), .val (.int xv), .val (.int yv), .val (.int lov), .val (.int hiv), .val (.long (((hiv.toInt64) - (lov.toInt64)) + (1 : Int64))), .second, .unset, .unset, .unset, .unset, .unset, .unset, .unset, .unset, .unset, .unset, .unset, .unset, .unset] [])) _
    exact k
  obtain ⟨sp, e_sp⟩ : ∃ z : Int64, z = (((hiv.toInt64) - (lov.toInt64)) + (1 : Int64)) := ⟨_, rfl⟩
  have pre52 : ∀ t, Steps p.tables e below (T47.setTop (mkF m 47 #[.val (.int av), .val (.int bv), .val (.long cv), .second, .val (.int lb), .val (.int sb), .val (.int xv), .val (.int yv), .val (.int lov), .val (.int hiv), .val (.long sp), .second, .unset, .unset, .unset, .unset, .unset, .unset, .unset, .unset, .unset, .unset, .unset, .unset, .unset] [])) t → Steps p.tables e below (s₁.setTop (entryFrame m #[(.int av), (.int bv), (.long cv), (.int lb), (.int sb)] maxLocals)) t := by rw [e_sp]; exact pre51
  have hsp : sp ≠ 0 := by rw [e_sp]; exact own_nz lov hiv hbd.1 hbd.2.1 hbd.2.2
  have pre53 : ∀ t, Steps p.tables e below (T47.setTop (mkF m 62 #[.val (.int av), .val (.int bv), .val (.long cv), .second, .val (.int lb), .val (.int sb), .val (.int xv), .val (.int yv), .val (.int lov), .val (.int hiv), .val (.long sp), .second, .val (.int (((lov.toInt64) + ((cv &&& (9223372036854775807 : Int64)) - ((cv &&& (9223372036854775807 : Int64)) / sp) * sp)).toInt32)), .unset, .unset, .unset, .unset, .unset, .unset, .unset, .unset, .unset, .unset, .unset, .unset] [])) t → Steps p.tables e below (s₁.setTop (entryFrame m #[(.int av), (.int bv), (.long cv), (.int lb), (.int sb)] maxLocals)) t := fun t k => by
    refine pre52 _ ?_
    show Steps p.tables e below (T47.setTop (mkF m 47 #[.val (.int av), .val (.int bv), .val (.long cv), .second, .val (.int lb), .val (.int sb), .val (.int xv), .val (.int yv), .val (.int lov), .val (.int hiv), .val (.long sp), .second, .unset, .unset, .unset, .unset, .unset, .unset, .unset, .unset, .unset, .unset, .unset, .unset, .unset] [])) _
    refine XS.iload X47.here hx rfl (hb hby at_47) rfl ?_
    show Steps p.tables e below (T47.setTop (mkF m 49 #[.val (.int av), .val (.int bv), .val (.long cv), .second, .val (.int lb), .val (.int sb), .val (.int xv), .val (.int yv), .val (.int lov), .val (.int hiv), .val (.long sp), .second, .unset, .unset, .unset, .unset, .unset, .unset, .unset, .unset, .unset, .unset, .unset, .unset, .unset] [(.int lov)])) _
    refine XS.i2l X47.here hx rfl (hb hby at_49) rfl ?_
    show Steps p.tables e below (T47.setTop (mkF m 50 #[.val (.int av), .val (.int bv), .val (.long cv), .second, .val (.int lb), .val (.int sb), .val (.int xv), .val (.int yv), .val (.int lov), .val (.int hiv), .val (.long sp), .second, .unset, .unset, .unset, .unset, .unset, .unset, .unset, .unset, .unset, .unset, .unset, .unset, .unset] [(.long (lov.toInt64))])) _
    refine XS.lloadN X47.here hx rfl (hb hby at_50) rfl ?_
    show Steps p.tables e below (T47.setTop (mkF m 51 #[.val (.int av), .val (.int bv), .val (.long cv), .second, .val (.int lb), .val (.int sb), .val (.int xv), .val (.int yv), .val (.int lov), .val (.int hiv), .val (.long sp), .second, .unset, .unset, .unset, .unset, .unset, .unset, .unset, .unset, .unset, .unset, .unset, .unset, .unset] [(.long cv), (.long (lov.toInt64))])) _
    refine X47.ldc2Long hx hown (mvT hZ (hw _ (List.mem_of_getElem? (i := 8) rfl))) (g := (mkF m 51 #[.val (.int av), .val (.int bv), .val (.long cv), .second, .val (.int lb), .val (.int sb), .val (.int xv), .val (.int yv), .val (.int lov), .val (.int hiv), .val (.long sp), .second, .unset, .unset, .unset, .unset, .unset, .unset, .unset, .unset, .unset, .unset, .unset, .unset, .unset] [(.long cv), (.long (lov.toInt64))])) rfl (hb hby at_51) _ ?_
    show Steps p.tables e below (T47.setTop (mkF m 54 #[.val (.int av), .val (.int bv), .val (.long cv), .second, .val (.int lb), .val (.int sb), .val (.int xv), .val (.int yv), .val (.int lov), .val (.int hiv), .val (.long sp), .second, .unset, .unset, .unset, .unset, .unset, .unset, .unset, .unset, .unset, .unset, .unset, .unset, .unset] [(.long (9223372036854775807 : Int64)), (.long cv), (.long (lov.toInt64))])) _
    refine XS.land X47.here hx rfl (hb hby at_54) rfl ?_
    show Steps p.tables e below (T47.setTop (mkF m 55 #[.val (.int av), .val (.int bv), .val (.long cv), .second, .val (.int lb), .val (.int sb), .val (.int xv), .val (.int yv), .val (.int lov), .val (.int hiv), .val (.long sp), .second, .unset, .unset, .unset, .unset, .unset, .unset, .unset, .unset, .unset, .unset, .unset, .unset, .unset] [(.long (cv &&& (9223372036854775807 : Int64))), (.long (lov.toInt64))])) _
    refine XS.lload X47.here hx rfl (hb hby at_55) rfl ?_
    show Steps p.tables e below (T47.setTop (mkF m 57 #[.val (.int av), .val (.int bv), .val (.long cv), .second, .val (.int lb), .val (.int sb), .val (.int xv), .val (.int yv), .val (.int lov), .val (.int hiv), .val (.long sp), .second, .unset, .unset, .unset, .unset, .unset, .unset, .unset, .unset, .unset, .unset, .unset, .unset, .unset] [(.long sp), (.long (cv &&& (9223372036854775807 : Int64))), (.long (lov.toInt64))])) _
    refine XS.lrem X47.here hx rfl (hb hby at_57) rfl hsp ?_
    show Steps p.tables e below (T47.setTop (mkF m 58 #[.val (.int av), .val (.int bv), .val (.long cv), .second, .val (.int lb), .val (.int sb), .val (.int xv), .val (.int yv), .val (.int lov), .val (.int hiv), .val (.long sp), .second, .unset, .unset, .unset, .unset, .unset, .unset, .unset, .unset, .unset, .unset, .unset, .unset, .unset] [(.long ((cv &&& (9223372036854775807 : Int64)) - ((cv &&& (9223372036854775807 : Int64)) / sp) * sp)), (.long (lov.toInt64))])) _
    refine XS.ladd X47.here hx rfl (hb hby at_58) rfl ?_
    show Steps p.tables e below (T47.setTop (mkF m 59 #[.val (.int av), .val (.int bv), .val (.long cv), .second, .val (.int lb), .val (.int sb), .val (.int xv), .val (.int yv), .val (.int lov), .val (.int hiv), .val (.long sp), .second, .unset, .unset, .unset, .unset, .unset, .unset, .unset, .unset, .unset, .unset, .unset, .unset, .unset] [(.long ((lov.toInt64) + ((cv &&& (9223372036854775807 : Int64)) - ((cv &&& (9223372036854775807 : Int64)) / sp) * sp)))])) _
    refine XS.l2i X47.here hx rfl (hb hby at_59) rfl ?_
    show Steps p.tables e below (T47.setTop (mkF m 60 #[.val (.int av), .val (.int bv), .val (.long cv), .second, .val (.int lb), .val (.int sb), .val (.int xv), .val (.int yv), .val (.int lov), .val (.int hiv), .val (.long sp), .second, .unset, .unset, .unset, .unset, .unset, .unset, .unset, .unset, .unset, .unset, .unset, .unset, .unset] [(.int (((lov.toInt64) + ((cv &&& (9223372036854775807 : Int64)) - ((cv &&& (9223372036854775807 : Int64)) / sp) * sp)).toInt32))])) _
    refine XS.istore X47.here hx rfl (hb hby at_60) rfl (l' := #[.val (.int av), .val (.int bv), .val (.long cv), .second, .val (.int lb), .val (.int sb), .val (.int xv), .val (.int yv), .val (.int lov), .val (.int hiv), .val (.long sp), .second, .val (.int (((lov.toInt64) + ((cv &&& (9223372036854775807 : Int64)) - ((cv &&& (9223372036854775807 : Int64)) / sp) * sp)).toInt32)), .unset, .unset, .unset, .unset, .unset, .unset, .unset, .unset, .unset, .unset, .unset, .unset]) rfl ?_
    show Steps p.tables e below (T47.setTop (mkF m 62 #[.val (.int av), .val (.int bv), .val (.long cv), .second, .val (.int lb), .val (.int sb), .val (.int xv), .val (.int yv), .val (.int lov), .val (.int hiv), .val (.long sp), .second, .val (.int (((lov.toInt64) + ((cv &&& (9223372036854775807 : Int64)) - ((cv &&& (9223372036854775807 : Int64)) / sp) * sp)).toInt32)), .unset, .unset, .unset, .unset, .unset, .unset, .unset, .unset, .unset, .unset, .unset, .unset] [])) _
    exact k
  obtain ⟨mv, e_mv⟩ : ∃ z : Int32, z = (((lov.toInt64) + ((cv &&& (9223372036854775807 : Int64)) - ((cv &&& (9223372036854775807 : Int64)) / sp) * sp)).toInt32) := ⟨_, rfl⟩
  have pre54 : ∀ t, Steps p.tables e below (T47.setTop (mkF m 62 #[.val (.int av), .val (.int bv), .val (.long cv), .second, .val (.int lb), .val (.int sb), .val (.int xv), .val (.int yv), .val (.int lov), .val (.int hiv), .val (.long sp), .second, .val (.int mv), .unset, .unset, .unset, .unset, .unset, .unset, .unset, .unset, .unset, .unset, .unset, .unset] [])) t → Steps p.tables e below (s₁.setTop (entryFrame m #[(.int av), (.int bv), (.long cv), (.int lb), (.int sb)] maxLocals)) t := by rw [e_mv]; exact pre53
  have hm := own_m lov hiv cv hbd.1 hbd.2.1 hbd.2.2 sp e_sp mv e_mv
  have hl := own_law lov hiv mv hbd.1 hbd.2.2 hm.1 hm.2
  obtain ⟨T56, h56, X56, e56, E56, A56, D56, -, st56⟩ := newO X47 hx hZ hown (hw _ (List.mem_of_getElem? (i := 9) rfl)) (hw _ (List.mem_of_getElem? (i := 10) rfl)) (hw _ (List.mem_of_getElem? (i := 11) rfl)) e47 (g := (mkF m 62 #[.val (.int av), .val (.int bv), .val (.long cv), .second, .val (.int lb), .val (.int sb), .val (.int xv), .val (.int yv), .val (.int lov), .val (.int hiv), .val (.long sp), .second, .val (.int mv), .unset, .unset, .unset, .unset, .unset, .unset, .unset, .unset, .unset, .unset, .unset, .unset] [])) rfl (hb hby at_62) (by decide) (by decide)
  obtain ⟨b56, g56⟩ : ∃ z, z = h0.size := ⟨_, rfl⟩
  have g_b56 : n0 ≤ b56 := Nat.le_trans Z0 (Nat.le_of_eq g56.symm)
  have sz_b56 : h0.size ≤ b56 := Nat.le_of_eq g56.symm
  rw [← g56] at A56 D56 st56
  have Zs56 : n0 ≤ h56.size := Nat.le_trans Z0 E56.1
  have K0 := Keep.refl h0 []
  have K56 := K0.ext E56
  have F_firstDay_b56 : Fld Z h56 b56 "com/example/novation/novation/risk/Backtest" "firstDay" "I" (.int (0 : Int32)) := D56 (Or.inr (hw _ (List.mem_of_getElem? (i := 24) rfl))) (ty := .int) (by decide)
  have F_lastDay_b56 : Fld Z h56 b56 "com/example/novation/novation/risk/Backtest" "lastDay" "I" (.int (0 : Int32)) := D56 (Or.inr (hw _ (List.mem_of_getElem? (i := 26) rfl))) (ty := .int) (by decide)
  have F_longBreaches_b56 : Fld Z h56 b56 "com/example/novation/novation/risk/Backtest" "longBreaches" "I" (.int (0 : Int32)) := D56 (Or.inr (hw _ (List.mem_of_getElem? (i := 28) rfl))) (ty := .int) (by decide)
  have F_shortBreaches_b56 : Fld Z h56 b56 "com/example/novation/novation/risk/Backtest" "shortBreaches" "I" (.int (0 : Int32)) := D56 (Or.inr (hw _ (List.mem_of_getElem? (i := 30) rfl))) (ty := .int) (by decide)
  have pre56 : ∀ t, Steps p.tables e below (T56.setTop (mkF m 65 #[.val (.int av), .val (.int bv), .val (.long cv), .second, .val (.int lb), .val (.int sb), .val (.int xv), .val (.int yv), .val (.int lov), .val (.int hiv), .val (.long sp), .second, .val (.int mv), .unset, .unset, .unset, .unset, .unset, .unset, .unset, .unset, .unset, .unset, .unset, .unset] [(.ref b56)])) t → Steps p.tables e below (s₁.setTop (entryFrame m #[(.int av), (.int bv), (.long cv), (.int lb), (.int sb)] maxLocals)) t := fun t k => pre54 _ (st56 t k)
  have pre57 : ∀ t, Steps p.tables e below (T56.setTop (mkF m 74 #[.val (.int av), .val (.int bv), .val (.long cv), .second, .val (.int lb), .val (.int sb), .val (.int xv), .val (.int yv), .val (.int lov), .val (.int hiv), .val (.long sp), .second, .val (.int mv), .unset, .unset, .unset, .unset, .unset, .unset, .unset, .unset, .unset, .unset, .unset, .unset] [(.int sb), (.int lb), (.int hiv), (.int lov), (.ref b56), (.ref b56)])) t → Steps p.tables e below (s₁.setTop (entryFrame m #[(.int av), (.int bv), (.long cv), (.int lb), (.int sb)] maxLocals)) t := fun t k => by
    refine pre56 _ ?_
    show Steps p.tables e below (T56.setTop (mkF m 65 #[.val (.int av), .val (.int bv), .val (.long cv), .second, .val (.int lb), .val (.int sb), .val (.int xv), .val (.int yv), .val (.int lov), .val (.int hiv), .val (.long sp), .second, .val (.int mv), .unset, .unset, .unset, .unset, .unset, .unset, .unset, .unset, .unset, .unset, .unset, .unset] [(.ref b56)])) _
    refine XS.dup X56.here hx rfl (hb hby at_65) rfl rfl ?_
    show Steps p.tables e below (T56.setTop (mkF m 66 #[.val (.int av), .val (.int bv), .val (.long cv), .second, .val (.int lb), .val (.int sb), .val (.int xv), .val (.int yv), .val (.int lov), .val (.int hiv), .val (.long sp), .second, .val (.int mv), .unset, .unset, .unset, .unset, .unset, .unset, .unset, .unset, .unset, .unset, .unset, .unset] [(.ref b56), (.ref b56)])) _
    refine XS.iload X56.here hx rfl (hb hby at_66) rfl ?_
    show Steps p.tables e below (T56.setTop (mkF m 68 #[.val (.int av), .val (.int bv), .val (.long cv), .second, .val (.int lb), .val (.int sb), .val (.int xv), .val (.int yv), .val (.int lov), .val (.int hiv), .val (.long sp), .second, .val (.int mv), .unset, .unset, .unset, .unset, .unset, .unset, .unset, .unset, .unset, .unset, .unset, .unset] [(.int lov), (.ref b56), (.ref b56)])) _
    refine XS.iload X56.here hx rfl (hb hby at_68) rfl ?_
    show Steps p.tables e below (T56.setTop (mkF m 70 #[.val (.int av), .val (.int bv), .val (.long cv), .second, .val (.int lb), .val (.int sb), .val (.int xv), .val (.int yv), .val (.int lov), .val (.int hiv), .val (.long sp), .second, .val (.int mv), .unset, .unset, .unset, .unset, .unset, .unset, .unset, .unset, .unset, .unset, .unset, .unset] [(.int hiv), (.int lov), (.ref b56), (.ref b56)])) _
    refine XS.iload X56.here hx rfl (hb hby at_70) rfl ?_
    show Steps p.tables e below (T56.setTop (mkF m 72 #[.val (.int av), .val (.int bv), .val (.long cv), .second, .val (.int lb), .val (.int sb), .val (.int xv), .val (.int yv), .val (.int lov), .val (.int hiv), .val (.long sp), .second, .val (.int mv), .unset, .unset, .unset, .unset, .unset, .unset, .unset, .unset, .unset, .unset, .unset, .unset] [(.int lb), (.int hiv), (.int lov), (.ref b56), (.ref b56)])) _
    refine XS.iload X56.here hx rfl (hb hby at_72) rfl ?_
    show Steps p.tables e below (T56.setTop (mkF m 74 #[.val (.int av), .val (.int bv), .val (.long cv), .second, .val (.int lb), .val (.int sb), .val (.int xv), .val (.int yv), .val (.int lov), .val (.int hiv), .val (.long sp), .second, .val (.int mv), .unset, .unset, .unset, .unset, .unset, .unset, .unset, .unset, .unset, .unset, .unset, .unset] [(.int sb), (.int lb), (.int hiv), (.int lov), (.ref b56), (.ref b56)])) _
    exact k
  obtain ⟨_, _, ⟨T58, L58, k58, n58⟩, -, X58, ⟨Lc58, hQ58, l58, y58, z58⟩, st58⟩ := X56.specialBack hx (y := (⟨"com/example/novation/novation/risk/Backtest", "<init>", "(IIII)V"⟩ : MethodName)) rfl hown (mvT hZ (hw _ (List.mem_of_getElem? (i := 12) rfl))) (mvT hZ (hw _ (List.mem_of_getElem? (i := 13) rfl))) (mvT hZ (hw _ (List.mem_of_getElem? (i := 14) rfl))) (by decide) (backOf (W := 1) (rm3 l Z aZ hw [] b56 lov hiv lb sb  h56 n0 Zs56 F_firstDay_b56 F_lastDay_b56 F_longBreaches_b56 F_shortBreaches_b56 A56 g_b56) hZ (hw _ (List.mem_of_getElem? (i := 14) rfl)) (hw _ (List.mem_of_getElem? (i := 11) rfl)) (by decide) (by decide)) (g := (mkF m 74 #[.val (.int av), .val (.int bv), .val (.long cv), .second, .val (.int lb), .val (.int sb), .val (.int xv), .val (.int yv), .val (.int lov), .val (.int hiv), .val (.long sp), .second, .val (.int mv), .unset, .unset, .unset, .unset, .unset, .unset, .unset, .unset, .unset, .unset, .unset, .unset] [(.int sb), (.int lb), (.int hiv), (.int lov), (.ref b56), (.ref b56)])) rfl (by rw [hml]; rfl) (Steps.refl _) (a := b56) (argsL := [(.int lov), (.int hiv), (.int lb), (.int sb)]) (rest := [(.ref b56)]) (lenOf pd_1 rfl) rfl (by show 2 * 0 + _ ≤ _; exact Nat.le_of_eq rfl) (hb hby at_74) (fun _ _ => ⟨rfl, e56, (by decide : 1 + 0 ≤ _), (by decide : 4 + 0 ≤ _)⟩)
  dsimp only [Pt.U, Pt.locs, Pt.cells, Pt.slots] at X58 l58 y58 z58 st58 hQ58
  subst l58 y58 z58
  obtain ⟨rfl, N58q, Kc58, Ex58, Fc58_firstDay, Fc58_lastDay, Fc58_longBreaches, Fc58_shortBreaches⟩ := hQ58
  have N58 := Fr.app N47 N58q
  have pre58 : ∀ t, Steps p.tables e below (T58.setTop (mkF m 77 #[.val (.int av), .val (.int bv), .val (.long cv), .second, .val (.int lb), .val (.int sb), .val (.int xv), .val (.int yv), .val (.int lov), .val (.int hiv), .val (.long sp), .second, .val (.int mv), .unset, .unset, .unset, .unset, .unset, .unset, .unset, .unset, .unset, .unset, .unset, .unset] [(.ref b56)])) t → Steps p.tables e below (s₁.setTop (entryFrame m #[(.int av), (.int bv), (.long cv), (.int lb), (.int sb)] maxLocals)) t := fun t k => pre57 _ (st58.trans k)
  have Zs58 : n0 ≤ T58.heap.size := Nat.le_trans Zs56 Kc58.1
  have F58_0 := A56.keep Kc58
  have K58 := K56.trans Kc58 (by intro x hx; simp only [List.mem_cons, List.not_mem_nil, or_false] at hx; rcases hx with rfl <;> first | exact Or.inr sz_b56)
  have pre59 : ∀ t, Steps p.tables e below (T58.setTop (mkF m 79 #[.val (.int av), .val (.int bv), .val (.long cv), .second, .val (.int lb), .val (.int sb), .val (.int xv), .val (.int yv), .val (.int lov), .val (.int hiv), .val (.long sp), .second, .val (.int mv), .val (.ref b56), .unset, .unset, .unset, .unset, .unset, .unset, .unset, .unset, .unset, .unset, .unset] [])) t → Steps p.tables e below (s₁.setTop (entryFrame m #[(.int av), (.int bv), (.long cv), (.int lb), (.int sb)] maxLocals)) t := fun t k => by
    refine pre58 _ ?_
    show Steps p.tables e below (T58.setTop (mkF m 77 #[.val (.int av), .val (.int bv), .val (.long cv), .second, .val (.int lb), .val (.int sb), .val (.int xv), .val (.int yv), .val (.int lov), .val (.int hiv), .val (.long sp), .second, .val (.int mv), .unset, .unset, .unset, .unset, .unset, .unset, .unset, .unset, .unset, .unset, .unset, .unset] [(.ref b56)])) _
    refine XS.astore X58.here hx rfl (hb hby at_77) rfl rfl (l' := #[.val (.int av), .val (.int bv), .val (.long cv), .second, .val (.int lb), .val (.int sb), .val (.int xv), .val (.int yv), .val (.int lov), .val (.int hiv), .val (.long sp), .second, .val (.int mv), .val (.ref b56), .unset, .unset, .unset, .unset, .unset, .unset, .unset, .unset, .unset, .unset, .unset]) rfl ?_
    show Steps p.tables e below (T58.setTop (mkF m 79 #[.val (.int av), .val (.int bv), .val (.long cv), .second, .val (.int lb), .val (.int sb), .val (.int xv), .val (.int yv), .val (.int lov), .val (.int hiv), .val (.long sp), .second, .val (.int mv), .val (.ref b56), .unset, .unset, .unset, .unset, .unset, .unset, .unset, .unset, .unset, .unset, .unset] [])) _
    exact k
  obtain ⟨T60, h60, X60, e60, E60, A60, D60, -, st60⟩ := newO X58 hx hZ hown (hw _ (List.mem_of_getElem? (i := 9) rfl)) (hw _ (List.mem_of_getElem? (i := 10) rfl)) (hw _ (List.mem_of_getElem? (i := 11) rfl)) rfl (g := (mkF m 79 #[.val (.int av), .val (.int bv), .val (.long cv), .second, .val (.int lb), .val (.int sb), .val (.int xv), .val (.int yv), .val (.int lov), .val (.int hiv), .val (.long sp), .second, .val (.int mv), .val (.ref b56), .unset, .unset, .unset, .unset, .unset, .unset, .unset, .unset, .unset, .unset, .unset] [])) rfl (hb hby at_79) (by decide) (by decide)
  obtain ⟨b60, g60⟩ : ∃ z, z = T58.heap.size := ⟨_, rfl⟩
  have ne_b56_b60 : b56 ≠ b60 := Nat.ne_of_lt (Nat.lt_of_lt_of_le Ex58.lt (Nat.le_of_eq g60.symm))
  have g_b60 : n0 ≤ b60 := Nat.le_trans Zs58 (Nat.le_of_eq g60.symm)
  have sz_b60 : h0.size ≤ b60 := Nat.le_trans K58.1 (Nat.le_of_eq g60.symm)
  rw [← g60] at A60 D60 st60
  have F60_0 := Ex58.ext E60
  have F60_1 := Fc58_firstDay.ext E60
  have F60_2 := Fc58_lastDay.ext E60
  have F60_3 := Fc58_longBreaches.ext E60
  have F60_4 := Fc58_shortBreaches.ext E60
  have Zs60 : n0 ≤ h60.size := Nat.le_trans Zs58 E60.1
  have K60 := K58.ext E60
  have F_firstDay_b60 : Fld Z h60 b60 "com/example/novation/novation/risk/Backtest" "firstDay" "I" (.int (0 : Int32)) := D60 (Or.inr (hw _ (List.mem_of_getElem? (i := 24) rfl))) (ty := .int) (by decide)
  have F_lastDay_b60 : Fld Z h60 b60 "com/example/novation/novation/risk/Backtest" "lastDay" "I" (.int (0 : Int32)) := D60 (Or.inr (hw _ (List.mem_of_getElem? (i := 26) rfl))) (ty := .int) (by decide)
  have F_longBreaches_b60 : Fld Z h60 b60 "com/example/novation/novation/risk/Backtest" "longBreaches" "I" (.int (0 : Int32)) := D60 (Or.inr (hw _ (List.mem_of_getElem? (i := 28) rfl))) (ty := .int) (by decide)
  have F_shortBreaches_b60 : Fld Z h60 b60 "com/example/novation/novation/risk/Backtest" "shortBreaches" "I" (.int (0 : Int32)) := D60 (Or.inr (hw _ (List.mem_of_getElem? (i := 30) rfl))) (ty := .int) (by decide)
  have pre60 : ∀ t, Steps p.tables e below (T60.setTop (mkF m 82 #[.val (.int av), .val (.int bv), .val (.long cv), .second, .val (.int lb), .val (.int sb), .val (.int xv), .val (.int yv), .val (.int lov), .val (.int hiv), .val (.long sp), .second, .val (.int mv), .val (.ref b56), .unset, .unset, .unset, .unset, .unset, .unset, .unset, .unset, .unset, .unset, .unset] [(.ref b60)])) t → Steps p.tables e below (s₁.setTop (entryFrame m #[(.int av), (.int bv), (.long cv), (.int lb), (.int sb)] maxLocals)) t := fun t k => pre59 _ (st60 t k)
  have pre61 : ∀ t, Steps p.tables e below (T60.setTop (mkF m 89 #[.val (.int av), .val (.int bv), .val (.long cv), .second, .val (.int lb), .val (.int sb), .val (.int xv), .val (.int yv), .val (.int lov), .val (.int hiv), .val (.long sp), .second, .val (.int mv), .val (.ref b56), .unset, .unset, .unset, .unset, .unset, .unset, .unset, .unset, .unset, .unset, .unset] [(.int (0 : Int32)), (.int (0 : Int32)), (.int mv), (.int lov), (.ref b60), (.ref b60)])) t → Steps p.tables e below (s₁.setTop (entryFrame m #[(.int av), (.int bv), (.long cv), (.int lb), (.int sb)] maxLocals)) t := fun t k => by
    refine pre60 _ ?_
    show Steps p.tables e below (T60.setTop (mkF m 82 #[.val (.int av), .val (.int bv), .val (.long cv), .second, .val (.int lb), .val (.int sb), .val (.int xv), .val (.int yv), .val (.int lov), .val (.int hiv), .val (.long sp), .second, .val (.int mv), .val (.ref b56), .unset, .unset, .unset, .unset, .unset, .unset, .unset, .unset, .unset, .unset, .unset] [(.ref b60)])) _
    refine XS.dup X60.here hx rfl (hb hby at_82) rfl rfl ?_
    show Steps p.tables e below (T60.setTop (mkF m 83 #[.val (.int av), .val (.int bv), .val (.long cv), .second, .val (.int lb), .val (.int sb), .val (.int xv), .val (.int yv), .val (.int lov), .val (.int hiv), .val (.long sp), .second, .val (.int mv), .val (.ref b56), .unset, .unset, .unset, .unset, .unset, .unset, .unset, .unset, .unset, .unset, .unset] [(.ref b60), (.ref b60)])) _
    refine XS.iload X60.here hx rfl (hb hby at_83) rfl ?_
    show Steps p.tables e below (T60.setTop (mkF m 85 #[.val (.int av), .val (.int bv), .val (.long cv), .second, .val (.int lb), .val (.int sb), .val (.int xv), .val (.int yv), .val (.int lov), .val (.int hiv), .val (.long sp), .second, .val (.int mv), .val (.ref b56), .unset, .unset, .unset, .unset, .unset, .unset, .unset, .unset, .unset, .unset, .unset] [(.int lov), (.ref b60), (.ref b60)])) _
    refine XS.iload X60.here hx rfl (hb hby at_85) rfl ?_
    show Steps p.tables e below (T60.setTop (mkF m 87 #[.val (.int av), .val (.int bv), .val (.long cv), .second, .val (.int lb), .val (.int sb), .val (.int xv), .val (.int yv), .val (.int lov), .val (.int hiv), .val (.long sp), .second, .val (.int mv), .val (.ref b56), .unset, .unset, .unset, .unset, .unset, .unset, .unset, .unset, .unset, .unset, .unset] [(.int mv), (.int lov), (.ref b60), (.ref b60)])) _
    refine XS.iconst X60.here hx rfl (hb hby at_87) ?_
    show Steps p.tables e below (T60.setTop (mkF m 88 #[.val (.int av), .val (.int bv), .val (.long cv), .second, .val (.int lb), .val (.int sb), .val (.int xv), .val (.int yv), .val (.int lov), .val (.int hiv), .val (.long sp), .second, .val (.int mv), .val (.ref b56), .unset, .unset, .unset, .unset, .unset, .unset, .unset, .unset, .unset, .unset, .unset] [(.int (0 : Int32)), (.int mv), (.int lov), (.ref b60), (.ref b60)])) _
    refine XS.iconst X60.here hx rfl (hb hby at_88) ?_
    show Steps p.tables e below (T60.setTop (mkF m 89 #[.val (.int av), .val (.int bv), .val (.long cv), .second, .val (.int lb), .val (.int sb), .val (.int xv), .val (.int yv), .val (.int lov), .val (.int hiv), .val (.long sp), .second, .val (.int mv), .val (.ref b56), .unset, .unset, .unset, .unset, .unset, .unset, .unset, .unset, .unset, .unset, .unset] [(.int (0 : Int32)), (.int (0 : Int32)), (.int mv), (.int lov), (.ref b60), (.ref b60)])) _
    exact k
  obtain ⟨_, _, ⟨T62, L62, k62, n62⟩, -, X62, ⟨Lc62, hQ62, l62, y62, z62⟩, st62⟩ := X60.specialBack hx (y := (⟨"com/example/novation/novation/risk/Backtest", "<init>", "(IIII)V"⟩ : MethodName)) rfl hown (mvT hZ (hw _ (List.mem_of_getElem? (i := 12) rfl))) (mvT hZ (hw _ (List.mem_of_getElem? (i := 13) rfl))) (mvT hZ (hw _ (List.mem_of_getElem? (i := 14) rfl))) (by decide) (backOf (W := 1) (rm3 l Z aZ hw [] b60 lov mv (0 : Int32) (0 : Int32)  h60 n0 Zs60 F_firstDay_b60 F_lastDay_b60 F_longBreaches_b60 F_shortBreaches_b60 A60 g_b60) hZ (hw _ (List.mem_of_getElem? (i := 14) rfl)) (hw _ (List.mem_of_getElem? (i := 11) rfl)) (by decide) (by decide)) (g := (mkF m 89 #[.val (.int av), .val (.int bv), .val (.long cv), .second, .val (.int lb), .val (.int sb), .val (.int xv), .val (.int yv), .val (.int lov), .val (.int hiv), .val (.long sp), .second, .val (.int mv), .val (.ref b56), .unset, .unset, .unset, .unset, .unset, .unset, .unset, .unset, .unset, .unset, .unset] [(.int (0 : Int32)), (.int (0 : Int32)), (.int mv), (.int lov), (.ref b60), (.ref b60)])) rfl (by rw [hml]; rfl) (Steps.refl _) (a := b60) (argsL := [(.int lov), (.int mv), (.int (0 : Int32)), (.int (0 : Int32))]) (rest := [(.ref b60)]) (lenOf pd_1 rfl) rfl (by show 2 * 0 + _ ≤ _; exact Nat.le_of_eq rfl) (hb hby at_89) (fun _ _ => ⟨rfl, e60, (by decide : 2 + 0 ≤ _), (by decide : 8 + 0 ≤ _)⟩)
  dsimp only [Pt.U, Pt.locs, Pt.cells, Pt.slots] at X62 l62 y62 z62 st62 hQ62
  subst l62 y62 z62
  obtain ⟨rfl, N62q, Kc62, Ex62, Fc62_firstDay, Fc62_lastDay, Fc62_longBreaches, Fc62_shortBreaches⟩ := hQ62
  have N62 := Fr.app N58 N62q
  have pre62 : ∀ t, Steps p.tables e below (T62.setTop (mkF m 92 #[.val (.int av), .val (.int bv), .val (.long cv), .second, .val (.int lb), .val (.int sb), .val (.int xv), .val (.int yv), .val (.int lov), .val (.int hiv), .val (.long sp), .second, .val (.int mv), .val (.ref b56), .unset, .unset, .unset, .unset, .unset, .unset, .unset, .unset, .unset, .unset, .unset] [(.ref b60)])) t → Steps p.tables e below (s₁.setTop (entryFrame m #[(.int av), (.int bv), (.long cv), (.int lb), (.int sb)] maxLocals)) t := fun t k => pre61 _ (st62.trans k)
  have Zs62 : n0 ≤ T62.heap.size := Nat.le_trans Zs60 Kc62.1
  have F62_0 := F60_0.keep Kc62
  have F62_1 := F60_1.keep Kc62 (by intro q; simp only [List.mem_cons, List.not_mem_nil, or_false] at q; exact ne_b56_b60 q)
  have F62_2 := F60_2.keep Kc62 (by intro q; simp only [List.mem_cons, List.not_mem_nil, or_false] at q; exact ne_b56_b60 q)
  have F62_3 := F60_3.keep Kc62 (by intro q; simp only [List.mem_cons, List.not_mem_nil, or_false] at q; exact ne_b56_b60 q)
  have F62_4 := F60_4.keep Kc62 (by intro q; simp only [List.mem_cons, List.not_mem_nil, or_false] at q; exact ne_b56_b60 q)
  have F62_5 := A60.keep Kc62
  have K62 := K60.trans Kc62 (by intro x hx; simp only [List.mem_cons, List.not_mem_nil, or_false] at hx; rcases hx with rfl <;> first | exact Or.inr sz_b60)
  have pre63 : ∀ t, Steps p.tables e below (T62.setTop (mkF m 94 #[.val (.int av), .val (.int bv), .val (.long cv), .second, .val (.int lb), .val (.int sb), .val (.int xv), .val (.int yv), .val (.int lov), .val (.int hiv), .val (.long sp), .second, .val (.int mv), .val (.ref b56), .val (.ref b60), .unset, .unset, .unset, .unset, .unset, .unset, .unset, .unset, .unset, .unset] [])) t → Steps p.tables e below (s₁.setTop (entryFrame m #[(.int av), (.int bv), (.long cv), (.int lb), (.int sb)] maxLocals)) t := fun t k => by
    refine pre62 _ ?_
    show Steps p.tables e below (T62.setTop (mkF m 92 #[.val (.int av), .val (.int bv), .val (.long cv), .second, .val (.int lb), .val (.int sb), .val (.int xv), .val (.int yv), .val (.int lov), .val (.int hiv), .val (.long sp), .second, .val (.int mv), .val (.ref b56), .unset, .unset, .unset, .unset, .unset, .unset, .unset, .unset, .unset, .unset, .unset] [(.ref b60)])) _
    refine XS.astore X62.here hx rfl (hb hby at_92) rfl rfl (l' := #[.val (.int av), .val (.int bv), .val (.long cv), .second, .val (.int lb), .val (.int sb), .val (.int xv), .val (.int yv), .val (.int lov), .val (.int hiv), .val (.long sp), .second, .val (.int mv), .val (.ref b56), .val (.ref b60), .unset, .unset, .unset, .unset, .unset, .unset, .unset, .unset, .unset, .unset]) rfl ?_
    show Steps p.tables e below (T62.setTop (mkF m 94 #[.val (.int av), .val (.int bv), .val (.long cv), .second, .val (.int lb), .val (.int sb), .val (.int xv), .val (.int yv), .val (.int lov), .val (.int hiv), .val (.long sp), .second, .val (.int mv), .val (.ref b56), .val (.ref b60), .unset, .unset, .unset, .unset, .unset, .unset, .unset, .unset, .unset, .unset] [])) _
    exact k
  obtain ⟨T64, h64, X64, e64, E64, A64, D64, -, st64⟩ := newO X62 hx hZ hown (hw _ (List.mem_of_getElem? (i := 9) rfl)) (hw _ (List.mem_of_getElem? (i := 10) rfl)) (hw _ (List.mem_of_getElem? (i := 11) rfl)) rfl (g := (mkF m 94 #[.val (.int av), .val (.int bv), .val (.long cv), .second, .val (.int lb), .val (.int sb), .val (.int xv), .val (.int yv), .val (.int lov), .val (.int hiv), .val (.long sp), .second, .val (.int mv), .val (.ref b56), .val (.ref b60), .unset, .unset, .unset, .unset, .unset, .unset, .unset, .unset, .unset, .unset] [])) rfl (hb hby at_94) (by decide) (by decide)
  obtain ⟨b64, g64⟩ : ∃ z, z = T62.heap.size := ⟨_, rfl⟩
  have ne_b56_b64 : b56 ≠ b64 := Nat.ne_of_lt (Nat.lt_of_lt_of_le F62_0.lt (Nat.le_of_eq g64.symm))
  have ne_b60_b64 : b60 ≠ b64 := Nat.ne_of_lt (Nat.lt_of_lt_of_le Ex62.lt (Nat.le_of_eq g64.symm))
  have g_b64 : n0 ≤ b64 := Nat.le_trans Zs62 (Nat.le_of_eq g64.symm)
  have sz_b64 : h0.size ≤ b64 := Nat.le_trans K62.1 (Nat.le_of_eq g64.symm)
  rw [← g64] at A64 D64 st64
  have F64_0 := F62_0.ext E64
  have F64_1 := F62_1.ext E64
  have F64_2 := F62_2.ext E64
  have F64_3 := F62_3.ext E64
  have F64_4 := F62_4.ext E64
  have F64_5 := Ex62.ext E64
  have F64_6 := Fc62_firstDay.ext E64
  have F64_7 := Fc62_lastDay.ext E64
  have F64_8 := Fc62_longBreaches.ext E64
  have F64_9 := Fc62_shortBreaches.ext E64
  have Zs64 : n0 ≤ h64.size := Nat.le_trans Zs62 E64.1
  have K64 := K62.ext E64
  have F_firstDay_b64 : Fld Z h64 b64 "com/example/novation/novation/risk/Backtest" "firstDay" "I" (.int (0 : Int32)) := D64 (Or.inr (hw _ (List.mem_of_getElem? (i := 24) rfl))) (ty := .int) (by decide)
  have F_lastDay_b64 : Fld Z h64 b64 "com/example/novation/novation/risk/Backtest" "lastDay" "I" (.int (0 : Int32)) := D64 (Or.inr (hw _ (List.mem_of_getElem? (i := 26) rfl))) (ty := .int) (by decide)
  have F_longBreaches_b64 : Fld Z h64 b64 "com/example/novation/novation/risk/Backtest" "longBreaches" "I" (.int (0 : Int32)) := D64 (Or.inr (hw _ (List.mem_of_getElem? (i := 28) rfl))) (ty := .int) (by decide)
  have F_shortBreaches_b64 : Fld Z h64 b64 "com/example/novation/novation/risk/Backtest" "shortBreaches" "I" (.int (0 : Int32)) := D64 (Or.inr (hw _ (List.mem_of_getElem? (i := 30) rfl))) (ty := .int) (by decide)
  have pre64 : ∀ t, Steps p.tables e below (T64.setTop (mkF m 97 #[.val (.int av), .val (.int bv), .val (.long cv), .second, .val (.int lb), .val (.int sb), .val (.int xv), .val (.int yv), .val (.int lov), .val (.int hiv), .val (.long sp), .second, .val (.int mv), .val (.ref b56), .val (.ref b60), .unset, .unset, .unset, .unset, .unset, .unset, .unset, .unset, .unset, .unset] [(.ref b64)])) t → Steps p.tables e below (s₁.setTop (entryFrame m #[(.int av), (.int bv), (.long cv), (.int lb), (.int sb)] maxLocals)) t := fun t k => pre63 _ (st64 t k)
  have pre65 : ∀ t, Steps p.tables e below (T64.setTop (mkF m 106 #[.val (.int av), .val (.int bv), .val (.long cv), .second, .val (.int lb), .val (.int sb), .val (.int xv), .val (.int yv), .val (.int lov), .val (.int hiv), .val (.long sp), .second, .val (.int mv), .val (.ref b56), .val (.ref b60), .unset, .unset, .unset, .unset, .unset, .unset, .unset, .unset, .unset, .unset] [(.int lb), (.int sb), (.int hiv), (.int mv), (.ref b64), (.ref b64)])) t → Steps p.tables e below (s₁.setTop (entryFrame m #[(.int av), (.int bv), (.long cv), (.int lb), (.int sb)] maxLocals)) t := fun t k => by
    refine pre64 _ ?_
    show Steps p.tables e below (T64.setTop (mkF m 97 #[.val (.int av), .val (.int bv), .val (.long cv), .second, .val (.int lb), .val (.int sb), .val (.int xv), .val (.int yv), .val (.int lov), .val (.int hiv), .val (.long sp), .second, .val (.int mv), .val (.ref b56), .val (.ref b60), .unset, .unset, .unset, .unset, .unset, .unset, .unset, .unset, .unset, .unset] [(.ref b64)])) _
    refine XS.dup X64.here hx rfl (hb hby at_97) rfl rfl ?_
    show Steps p.tables e below (T64.setTop (mkF m 98 #[.val (.int av), .val (.int bv), .val (.long cv), .second, .val (.int lb), .val (.int sb), .val (.int xv), .val (.int yv), .val (.int lov), .val (.int hiv), .val (.long sp), .second, .val (.int mv), .val (.ref b56), .val (.ref b60), .unset, .unset, .unset, .unset, .unset, .unset, .unset, .unset, .unset, .unset] [(.ref b64), (.ref b64)])) _
    refine XS.iload X64.here hx rfl (hb hby at_98) rfl ?_
    show Steps p.tables e below (T64.setTop (mkF m 100 #[.val (.int av), .val (.int bv), .val (.long cv), .second, .val (.int lb), .val (.int sb), .val (.int xv), .val (.int yv), .val (.int lov), .val (.int hiv), .val (.long sp), .second, .val (.int mv), .val (.ref b56), .val (.ref b60), .unset, .unset, .unset, .unset, .unset, .unset, .unset, .unset, .unset, .unset] [(.int mv), (.ref b64), (.ref b64)])) _
    refine XS.iload X64.here hx rfl (hb hby at_100) rfl ?_
    show Steps p.tables e below (T64.setTop (mkF m 102 #[.val (.int av), .val (.int bv), .val (.long cv), .second, .val (.int lb), .val (.int sb), .val (.int xv), .val (.int yv), .val (.int lov), .val (.int hiv), .val (.long sp), .second, .val (.int mv), .val (.ref b56), .val (.ref b60), .unset, .unset, .unset, .unset, .unset, .unset, .unset, .unset, .unset, .unset] [(.int hiv), (.int mv), (.ref b64), (.ref b64)])) _
    refine XS.iload X64.here hx rfl (hb hby at_102) rfl ?_
    show Steps p.tables e below (T64.setTop (mkF m 104 #[.val (.int av), .val (.int bv), .val (.long cv), .second, .val (.int lb), .val (.int sb), .val (.int xv), .val (.int yv), .val (.int lov), .val (.int hiv), .val (.long sp), .second, .val (.int mv), .val (.ref b56), .val (.ref b60), .unset, .unset, .unset, .unset, .unset, .unset, .unset, .unset, .unset, .unset] [(.int sb), (.int hiv), (.int mv), (.ref b64), (.ref b64)])) _
    refine XS.iload X64.here hx rfl (hb hby at_104) rfl ?_
    show Steps p.tables e below (T64.setTop (mkF m 106 #[.val (.int av), .val (.int bv), .val (.long cv), .second, .val (.int lb), .val (.int sb), .val (.int xv), .val (.int yv), .val (.int lov), .val (.int hiv), .val (.long sp), .second, .val (.int mv), .val (.ref b56), .val (.ref b60), .unset, .unset, .unset, .unset, .unset, .unset, .unset, .unset, .unset, .unset] [(.int lb), (.int sb), (.int hiv), (.int mv), (.ref b64), (.ref b64)])) _
    exact k
  obtain ⟨_, _, ⟨T66, L66, k66, n66⟩, -, X66, ⟨Lc66, hQ66, l66, y66, z66⟩, st66⟩ := X64.specialBack hx (y := (⟨"com/example/novation/novation/risk/Backtest", "<init>", "(IIII)V"⟩ : MethodName)) rfl hown (mvT hZ (hw _ (List.mem_of_getElem? (i := 12) rfl))) (mvT hZ (hw _ (List.mem_of_getElem? (i := 13) rfl))) (mvT hZ (hw _ (List.mem_of_getElem? (i := 14) rfl))) (by decide) (backOf (W := 1) (rm3 l Z aZ hw [] b64 mv hiv sb lb  h64 n0 Zs64 F_firstDay_b64 F_lastDay_b64 F_longBreaches_b64 F_shortBreaches_b64 A64 g_b64) hZ (hw _ (List.mem_of_getElem? (i := 14) rfl)) (hw _ (List.mem_of_getElem? (i := 11) rfl)) (by decide) (by decide)) (g := (mkF m 106 #[.val (.int av), .val (.int bv), .val (.long cv), .second, .val (.int lb), .val (.int sb), .val (.int xv), .val (.int yv), .val (.int lov), .val (.int hiv), .val (.long sp), .second, .val (.int mv), .val (.ref b56), .val (.ref b60), .unset, .unset, .unset, .unset, .unset, .unset, .unset, .unset, .unset, .unset] [(.int lb), (.int sb), (.int hiv), (.int mv), (.ref b64), (.ref b64)])) rfl (by rw [hml]; rfl) (Steps.refl _) (a := b64) (argsL := [(.int mv), (.int hiv), (.int sb), (.int lb)]) (rest := [(.ref b64)]) (lenOf pd_1 rfl) rfl (by show 2 * 0 + _ ≤ _; exact Nat.le_of_eq rfl) (hb hby at_106) (fun _ _ => ⟨rfl, e64, (by decide : 3 + 0 ≤ _), (by decide : 12 + 0 ≤ _)⟩)
  dsimp only [Pt.U, Pt.locs, Pt.cells, Pt.slots] at X66 l66 y66 z66 st66 hQ66
  subst l66 y66 z66
  obtain ⟨rfl, N66q, Kc66, Ex66, Fc66_firstDay, Fc66_lastDay, Fc66_longBreaches, Fc66_shortBreaches⟩ := hQ66
  have N66 := Fr.app N62 N66q
  have pre66 : ∀ t, Steps p.tables e below (T66.setTop (mkF m 109 #[.val (.int av), .val (.int bv), .val (.long cv), .second, .val (.int lb), .val (.int sb), .val (.int xv), .val (.int yv), .val (.int lov), .val (.int hiv), .val (.long sp), .second, .val (.int mv), .val (.ref b56), .val (.ref b60), .unset, .unset, .unset, .unset, .unset, .unset, .unset, .unset, .unset, .unset] [(.ref b64)])) t → Steps p.tables e below (s₁.setTop (entryFrame m #[(.int av), (.int bv), (.long cv), (.int lb), (.int sb)] maxLocals)) t := fun t k => pre65 _ (st66.trans k)
  have Zs66 : n0 ≤ T66.heap.size := Nat.le_trans Zs64 Kc66.1
  have F66_0 := F64_0.keep Kc66
  have F66_1 := F64_1.keep Kc66 (by intro q; simp only [List.mem_cons, List.not_mem_nil, or_false] at q; exact ne_b56_b64 q)
  have F66_2 := F64_2.keep Kc66 (by intro q; simp only [List.mem_cons, List.not_mem_nil, or_false] at q; exact ne_b56_b64 q)
  have F66_3 := F64_3.keep Kc66 (by intro q; simp only [List.mem_cons, List.not_mem_nil, or_false] at q; exact ne_b56_b64 q)
  have F66_4 := F64_4.keep Kc66 (by intro q; simp only [List.mem_cons, List.not_mem_nil, or_false] at q; exact ne_b56_b64 q)
  have F66_5 := F64_5.keep Kc66
  have F66_6 := F64_6.keep Kc66 (by intro q; simp only [List.mem_cons, List.not_mem_nil, or_false] at q; exact ne_b60_b64 q)
  have F66_7 := F64_7.keep Kc66 (by intro q; simp only [List.mem_cons, List.not_mem_nil, or_false] at q; exact ne_b60_b64 q)
  have F66_8 := F64_8.keep Kc66 (by intro q; simp only [List.mem_cons, List.not_mem_nil, or_false] at q; exact ne_b60_b64 q)
  have F66_9 := F64_9.keep Kc66 (by intro q; simp only [List.mem_cons, List.not_mem_nil, or_false] at q; exact ne_b60_b64 q)
  have F66_10 := A64.keep Kc66
  have K66 := K64.trans Kc66 (by intro x hx; simp only [List.mem_cons, List.not_mem_nil, or_false] at hx; rcases hx with rfl <;> first | exact Or.inr sz_b64)
  have pre67 : ∀ t, Steps p.tables e below (T66.setTop (mkF m 111 #[.val (.int av), .val (.int bv), .val (.long cv), .second, .val (.int lb), .val (.int sb), .val (.int xv), .val (.int yv), .val (.int lov), .val (.int hiv), .val (.long sp), .second, .val (.int mv), .val (.ref b56), .val (.ref b60), .val (.ref b64), .unset, .unset, .unset, .unset, .unset, .unset, .unset, .unset, .unset] [])) t → Steps p.tables e below (s₁.setTop (entryFrame m #[(.int av), (.int bv), (.long cv), (.int lb), (.int sb)] maxLocals)) t := fun t k => by
    refine pre66 _ ?_
    show Steps p.tables e below (T66.setTop (mkF m 109 #[.val (.int av), .val (.int bv), .val (.long cv), .second, .val (.int lb), .val (.int sb), .val (.int xv), .val (.int yv), .val (.int lov), .val (.int hiv), .val (.long sp), .second, .val (.int mv), .val (.ref b56), .val (.ref b60), .unset, .unset, .unset, .unset, .unset, .unset, .unset, .unset, .unset, .unset] [(.ref b64)])) _
    refine XS.astore X66.here hx rfl (hb hby at_109) rfl rfl (l' := #[.val (.int av), .val (.int bv), .val (.long cv), .second, .val (.int lb), .val (.int sb), .val (.int xv), .val (.int yv), .val (.int lov), .val (.int hiv), .val (.long sp), .second, .val (.int mv), .val (.ref b56), .val (.ref b60), .val (.ref b64), .unset, .unset, .unset, .unset, .unset, .unset, .unset, .unset, .unset]) rfl ?_
    show Steps p.tables e below (T66.setTop (mkF m 111 #[.val (.int av), .val (.int bv), .val (.long cv), .second, .val (.int lb), .val (.int sb), .val (.int xv), .val (.int yv), .val (.int lov), .val (.int hiv), .val (.long sp), .second, .val (.int mv), .val (.ref b56), .val (.ref b60), .val (.ref b64), .unset, .unset, .unset, .unset, .unset, .unset, .unset, .unset, .unset] [])) _
    exact k
  obtain ⟨T68, h68, X68, e68, E68, A68, D68, -, st68⟩ := newO X66 hx hZ hown (hw _ (List.mem_of_getElem? (i := 9) rfl)) (hw _ (List.mem_of_getElem? (i := 10) rfl)) (hw _ (List.mem_of_getElem? (i := 11) rfl)) rfl (g := (mkF m 111 #[.val (.int av), .val (.int bv), .val (.long cv), .second, .val (.int lb), .val (.int sb), .val (.int xv), .val (.int yv), .val (.int lov), .val (.int hiv), .val (.long sp), .second, .val (.int mv), .val (.ref b56), .val (.ref b60), .val (.ref b64), .unset, .unset, .unset, .unset, .unset, .unset, .unset, .unset, .unset] [])) rfl (hb hby at_111) (by decide) (by decide)
  obtain ⟨b68, g68⟩ : ∃ z, z = T66.heap.size := ⟨_, rfl⟩
  have ne_b56_b68 : b56 ≠ b68 := Nat.ne_of_lt (Nat.lt_of_lt_of_le F66_0.lt (Nat.le_of_eq g68.symm))
  have ne_b60_b68 : b60 ≠ b68 := Nat.ne_of_lt (Nat.lt_of_lt_of_le F66_5.lt (Nat.le_of_eq g68.symm))
  have ne_b64_b68 : b64 ≠ b68 := Nat.ne_of_lt (Nat.lt_of_lt_of_le Ex66.lt (Nat.le_of_eq g68.symm))
  have g_b68 : n0 ≤ b68 := Nat.le_trans Zs66 (Nat.le_of_eq g68.symm)
  have sz_b68 : h0.size ≤ b68 := Nat.le_trans K66.1 (Nat.le_of_eq g68.symm)
  rw [← g68] at A68 D68 st68
  have F68_0 := F66_0.ext E68
  have F68_1 := F66_1.ext E68
  have F68_2 := F66_2.ext E68
  have F68_3 := F66_3.ext E68
  have F68_4 := F66_4.ext E68
  have F68_5 := F66_5.ext E68
  have F68_6 := F66_6.ext E68
  have F68_7 := F66_7.ext E68
  have F68_8 := F66_8.ext E68
  have F68_9 := F66_9.ext E68
  have F68_10 := Ex66.ext E68
  have F68_11 := Fc66_firstDay.ext E68
  have F68_12 := Fc66_lastDay.ext E68
  have F68_13 := Fc66_longBreaches.ext E68
  have F68_14 := Fc66_shortBreaches.ext E68
  have Zs68 : n0 ≤ h68.size := Nat.le_trans Zs66 E68.1
  have K68 := K66.ext E68
  have F_firstDay_b68 : Fld Z h68 b68 "com/example/novation/novation/risk/Backtest" "firstDay" "I" (.int (0 : Int32)) := D68 (Or.inr (hw _ (List.mem_of_getElem? (i := 24) rfl))) (ty := .int) (by decide)
  have F_lastDay_b68 : Fld Z h68 b68 "com/example/novation/novation/risk/Backtest" "lastDay" "I" (.int (0 : Int32)) := D68 (Or.inr (hw _ (List.mem_of_getElem? (i := 26) rfl))) (ty := .int) (by decide)
  have F_longBreaches_b68 : Fld Z h68 b68 "com/example/novation/novation/risk/Backtest" "longBreaches" "I" (.int (0 : Int32)) := D68 (Or.inr (hw _ (List.mem_of_getElem? (i := 28) rfl))) (ty := .int) (by decide)
  have F_shortBreaches_b68 : Fld Z h68 b68 "com/example/novation/novation/risk/Backtest" "shortBreaches" "I" (.int (0 : Int32)) := D68 (Or.inr (hw _ (List.mem_of_getElem? (i := 30) rfl))) (ty := .int) (by decide)
  have pre68 : ∀ t, Steps p.tables e below (T68.setTop (mkF m 114 #[.val (.int av), .val (.int bv), .val (.long cv), .second, .val (.int lb), .val (.int sb), .val (.int xv), .val (.int yv), .val (.int lov), .val (.int hiv), .val (.long sp), .second, .val (.int mv), .val (.ref b56), .val (.ref b60), .val (.ref b64), .unset, .unset, .unset, .unset, .unset, .unset, .unset, .unset, .unset] [(.ref b68)])) t → Steps p.tables e below (s₁.setTop (entryFrame m #[(.int av), (.int bv), (.long cv), (.int lb), (.int sb)] maxLocals)) t := fun t k => pre67 _ (st68 t k)
  have pre69 : ∀ t, Steps p.tables e below (T68.setTop (mkF m 122 #[.val (.int av), .val (.int bv), .val (.long cv), .second, .val (.int lb), .val (.int sb), .val (.int xv), .val (.int yv), .val (.int lov), .val (.int hiv), .val (.long sp), .second, .val (.int mv), .val (.ref b56), .val (.ref b60), .val (.ref b64), .unset, .unset, .unset, .unset, .unset, .unset, .unset, .unset, .unset] [(.int (0 : Int32)), (.int lb), (.int mv), (.int mv), (.ref b68), (.ref b68)])) t → Steps p.tables e below (s₁.setTop (entryFrame m #[(.int av), (.int bv), (.long cv), (.int lb), (.int sb)] maxLocals)) t := fun t k => by
    refine pre68 _ ?_
    show Steps p.tables e below (T68.setTop (mkF m 114 #[.val (.int av), .val (.int bv), .val (.long cv), .second, .val (.int lb), .val (.int sb), .val (.int xv), .val (.int yv), .val (.int lov), .val (.int hiv), .val (.long sp), .second, .val (.int mv), .val (.ref b56), .val (.ref b60), .val (.ref b64), .unset, .unset, .unset, .unset, .unset, .unset, .unset, .unset, .unset] [(.ref b68)])) _
    refine XS.dup X68.here hx rfl (hb hby at_114) rfl rfl ?_
    show Steps p.tables e below (T68.setTop (mkF m 115 #[.val (.int av), .val (.int bv), .val (.long cv), .second, .val (.int lb), .val (.int sb), .val (.int xv), .val (.int yv), .val (.int lov), .val (.int hiv), .val (.long sp), .second, .val (.int mv), .val (.ref b56), .val (.ref b60), .val (.ref b64), .unset, .unset, .unset, .unset, .unset, .unset, .unset, .unset, .unset] [(.ref b68), (.ref b68)])) _
    refine XS.iload X68.here hx rfl (hb hby at_115) rfl ?_
    show Steps p.tables e below (T68.setTop (mkF m 117 #[.val (.int av), .val (.int bv), .val (.long cv), .second, .val (.int lb), .val (.int sb), .val (.int xv), .val (.int yv), .val (.int lov), .val (.int hiv), .val (.long sp), .second, .val (.int mv), .val (.ref b56), .val (.ref b60), .val (.ref b64), .unset, .unset, .unset, .unset, .unset, .unset, .unset, .unset, .unset] [(.int mv), (.ref b68), (.ref b68)])) _
    refine XS.iload X68.here hx rfl (hb hby at_117) rfl ?_
    show Steps p.tables e below (T68.setTop (mkF m 119 #[.val (.int av), .val (.int bv), .val (.long cv), .second, .val (.int lb), .val (.int sb), .val (.int xv), .val (.int yv), .val (.int lov), .val (.int hiv), .val (.long sp), .second, .val (.int mv), .val (.ref b56), .val (.ref b60), .val (.ref b64), .unset, .unset, .unset, .unset, .unset, .unset, .unset, .unset, .unset] [(.int mv), (.int mv), (.ref b68), (.ref b68)])) _
    refine XS.iload X68.here hx rfl (hb hby at_119) rfl ?_
    show Steps p.tables e below (T68.setTop (mkF m 121 #[.val (.int av), .val (.int bv), .val (.long cv), .second, .val (.int lb), .val (.int sb), .val (.int xv), .val (.int yv), .val (.int lov), .val (.int hiv), .val (.long sp), .second, .val (.int mv), .val (.ref b56), .val (.ref b60), .val (.ref b64), .unset, .unset, .unset, .unset, .unset, .unset, .unset, .unset, .unset] [(.int lb), (.int mv), (.int mv), (.ref b68), (.ref b68)])) _
    refine XS.iconst X68.here hx rfl (hb hby at_121) ?_
    show Steps p.tables e below (T68.setTop (mkF m 122 #[.val (.int av), .val (.int bv), .val (.long cv), .second, .val (.int lb), .val (.int sb), .val (.int xv), .val (.int yv), .val (.int lov), .val (.int hiv), .val (.long sp), .second, .val (.int mv), .val (.ref b56), .val (.ref b60), .val (.ref b64), .unset, .unset, .unset, .unset, .unset, .unset, .unset, .unset, .unset] [(.int (0 : Int32)), (.int lb), (.int mv), (.int mv), (.ref b68), (.ref b68)])) _
    exact k
  obtain ⟨_, _, ⟨T70, L70, k70, n70⟩, -, X70, ⟨Lc70, hQ70, l70, y70, z70⟩, st70⟩ := X68.specialBack hx (y := (⟨"com/example/novation/novation/risk/Backtest", "<init>", "(IIII)V"⟩ : MethodName)) rfl hown (mvT hZ (hw _ (List.mem_of_getElem? (i := 12) rfl))) (mvT hZ (hw _ (List.mem_of_getElem? (i := 13) rfl))) (mvT hZ (hw _ (List.mem_of_getElem? (i := 14) rfl))) (by decide) (backOf (W := 1) (rm3 l Z aZ hw [] b68 mv mv lb (0 : Int32)  h68 n0 Zs68 F_firstDay_b68 F_lastDay_b68 F_longBreaches_b68 F_shortBreaches_b68 A68 g_b68) hZ (hw _ (List.mem_of_getElem? (i := 14) rfl)) (hw _ (List.mem_of_getElem? (i := 11) rfl)) (by decide) (by decide)) (g := (mkF m 122 #[.val (.int av), .val (.int bv), .val (.long cv), .second, .val (.int lb), .val (.int sb), .val (.int xv), .val (.int yv), .val (.int lov), .val (.int hiv), .val (.long sp), .second, .val (.int mv), .val (.ref b56), .val (.ref b60), .val (.ref b64), .unset, .unset, .unset, .unset, .unset, .unset, .unset, .unset, .unset] [(.int (0 : Int32)), (.int lb), (.int mv), (.int mv), (.ref b68), (.ref b68)])) rfl (by rw [hml]; rfl) (Steps.refl _) (a := b68) (argsL := [(.int mv), (.int mv), (.int lb), (.int (0 : Int32))]) (rest := [(.ref b68)]) (lenOf pd_1 rfl) rfl (by show 2 * 0 + _ ≤ _; exact Nat.le_of_eq rfl) (hb hby at_122) (fun _ _ => ⟨rfl, e68, (by decide : 4 + 0 ≤ _), (by decide : 16 + 0 ≤ _)⟩)
  dsimp only [Pt.U, Pt.locs, Pt.cells, Pt.slots] at X70 l70 y70 z70 st70 hQ70
  subst l70 y70 z70
  obtain ⟨rfl, N70q, Kc70, Ex70, Fc70_firstDay, Fc70_lastDay, Fc70_longBreaches, Fc70_shortBreaches⟩ := hQ70
  have N70 := Fr.app N66 N70q
  have pre70 : ∀ t, Steps p.tables e below (T70.setTop (mkF m 125 #[.val (.int av), .val (.int bv), .val (.long cv), .second, .val (.int lb), .val (.int sb), .val (.int xv), .val (.int yv), .val (.int lov), .val (.int hiv), .val (.long sp), .second, .val (.int mv), .val (.ref b56), .val (.ref b60), .val (.ref b64), .unset, .unset, .unset, .unset, .unset, .unset, .unset, .unset, .unset] [(.ref b68)])) t → Steps p.tables e below (s₁.setTop (entryFrame m #[(.int av), (.int bv), (.long cv), (.int lb), (.int sb)] maxLocals)) t := fun t k => pre69 _ (st70.trans k)
  have Zs70 : n0 ≤ T70.heap.size := Nat.le_trans Zs68 Kc70.1
  have F70_0 := F68_0.keep Kc70
  have F70_1 := F68_1.keep Kc70 (by intro q; simp only [List.mem_cons, List.not_mem_nil, or_false] at q; exact ne_b56_b68 q)
  have F70_2 := F68_2.keep Kc70 (by intro q; simp only [List.mem_cons, List.not_mem_nil, or_false] at q; exact ne_b56_b68 q)
  have F70_3 := F68_3.keep Kc70 (by intro q; simp only [List.mem_cons, List.not_mem_nil, or_false] at q; exact ne_b56_b68 q)
  have F70_4 := F68_4.keep Kc70 (by intro q; simp only [List.mem_cons, List.not_mem_nil, or_false] at q; exact ne_b56_b68 q)
  have F70_5 := F68_5.keep Kc70
  have F70_6 := F68_6.keep Kc70 (by intro q; simp only [List.mem_cons, List.not_mem_nil, or_false] at q; exact ne_b60_b68 q)
  have F70_7 := F68_7.keep Kc70 (by intro q; simp only [List.mem_cons, List.not_mem_nil, or_false] at q; exact ne_b60_b68 q)
  have F70_8 := F68_8.keep Kc70 (by intro q; simp only [List.mem_cons, List.not_mem_nil, or_false] at q; exact ne_b60_b68 q)
  have F70_9 := F68_9.keep Kc70 (by intro q; simp only [List.mem_cons, List.not_mem_nil, or_false] at q; exact ne_b60_b68 q)
  have F70_10 := F68_10.keep Kc70
  have F70_11 := F68_11.keep Kc70 (by intro q; simp only [List.mem_cons, List.not_mem_nil, or_false] at q; exact ne_b64_b68 q)
  have F70_12 := F68_12.keep Kc70 (by intro q; simp only [List.mem_cons, List.not_mem_nil, or_false] at q; exact ne_b64_b68 q)
  have F70_13 := F68_13.keep Kc70 (by intro q; simp only [List.mem_cons, List.not_mem_nil, or_false] at q; exact ne_b64_b68 q)
  have F70_14 := F68_14.keep Kc70 (by intro q; simp only [List.mem_cons, List.not_mem_nil, or_false] at q; exact ne_b64_b68 q)
  have F70_15 := A68.keep Kc70
  have K70 := K68.trans Kc70 (by intro x hx; simp only [List.mem_cons, List.not_mem_nil, or_false] at hx; rcases hx with rfl <;> first | exact Or.inr sz_b68)
  have pre71 : ∀ t, Steps p.tables e below (T70.setTop (mkF m 129 #[.val (.int av), .val (.int bv), .val (.long cv), .second, .val (.int lb), .val (.int sb), .val (.int xv), .val (.int yv), .val (.int lov), .val (.int hiv), .val (.long sp), .second, .val (.int mv), .val (.ref b56), .val (.ref b60), .val (.ref b64), .val (.ref b68), .unset, .unset, .unset, .unset, .unset, .unset, .unset, .unset] [(.ref b56)])) t → Steps p.tables e below (s₁.setTop (entryFrame m #[(.int av), (.int bv), (.long cv), (.int lb), (.int sb)] maxLocals)) t := fun t k => by
    refine pre70 _ ?_
    show Steps p.tables e below (T70.setTop (mkF m 125 #[.val (.int av), .val (.int bv), .val (.long cv), .second, .val (.int lb), .val (.int sb), .val (.int xv), .val (.int yv), .val (.int lov), .val (.int hiv), .val (.long sp), .second, .val (.int mv), .val (.ref b56), .val (.ref b60), .val (.ref b64), .unset, .unset, .unset, .unset, .unset, .unset, .unset, .unset, .unset] [(.ref b68)])) _
    refine XS.astore X70.here hx rfl (hb hby at_125) rfl rfl (l' := #[.val (.int av), .val (.int bv), .val (.long cv), .second, .val (.int lb), .val (.int sb), .val (.int xv), .val (.int yv), .val (.int lov), .val (.int hiv), .val (.long sp), .second, .val (.int mv), .val (.ref b56), .val (.ref b60), .val (.ref b64), .val (.ref b68), .unset, .unset, .unset, .unset, .unset, .unset, .unset, .unset]) rfl ?_
    show Steps p.tables e below (T70.setTop (mkF m 127 #[.val (.int av), .val (.int bv), .val (.long cv), .second, .val (.int lb), .val (.int sb), .val (.int xv), .val (.int yv), .val (.int lov), .val (.int hiv), .val (.long sp), .second, .val (.int mv), .val (.ref b56), .val (.ref b60), .val (.ref b64), .val (.ref b68), .unset, .unset, .unset, .unset, .unset, .unset, .unset, .unset] [])) _
    refine XS.aload X70.here hx rfl (hb hby at_127) rfl rfl ?_
    show Steps p.tables e below (T70.setTop (mkF m 129 #[.val (.int av), .val (.int bv), .val (.long cv), .second, .val (.int lb), .val (.int sb), .val (.int xv), .val (.int yv), .val (.int lov), .val (.int hiv), .val (.long sp), .second, .val (.int mv), .val (.ref b56), .val (.ref b60), .val (.ref b64), .val (.ref b68), .unset, .unset, .unset, .unset, .unset, .unset, .unset, .unset] [(.ref b56)])) _
    exact k
  obtain ⟨cq72, kq72, q72a, q72b, q72c⟩ := isOf hZ rfl F70_0
  obtain ⟨_, _, ⟨T72, L72, k72, n72⟩, -, X72, ⟨Lc72, hQ72, l72, y72, z72⟩, st72⟩ := X70.virtualBack hx (y := (⟨"com/example/novation/novation/risk/Backtest", "days", "()I"⟩ : MethodName)) (z := (⟨"com/example/novation/novation/risk/Backtest", "days", "()I"⟩ : MethodName)) hown (mvT hZ (hw _ (List.mem_of_getElem? (i := 31) rfl))) (mvT hZ (hw _ (List.mem_of_getElem? (i := 32) rfl))) (notFace_of_selects (args := #[]) (mvT hZ (hw _ (List.mem_of_getElem? (i := 34) rfl)))) (mvT hZ (hw _ (List.mem_of_getElem? (i := 34) rfl))) (mvT hZ (hw _ (List.mem_of_getElem? (i := 33) rfl))) (by decide) (backOf (W := 0) (rm6 l Z aZ hw [] b56 lov hiv T70.heap n0 Zs70 F70_1 F70_2) hZ (hw _ (List.mem_of_getElem? (i := 35) rfl)) (hw _ (List.mem_of_getElem? (i := 11) rfl)) (by decide) (by decide)) q72a q72c (g := (mkF m 129 #[.val (.int av), .val (.int bv), .val (.long cv), .second, .val (.int lb), .val (.int sb), .val (.int xv), .val (.int yv), .val (.int lov), .val (.int hiv), .val (.long sp), .second, .val (.int mv), .val (.ref b56), .val (.ref b60), .val (.ref b64), .val (.ref b68), .unset, .unset, .unset, .unset, .unset, .unset, .unset, .unset] [(.ref b56)])) rfl (by rw [hml]; rfl) (Steps.refl _) (argsL := []) (rest := []) (lenOf pd_3 rfl) rfl (by show 2 * 0 + _ ≤ _; exact Nat.le_of_eq rfl) (hb hby at_129) (fun _ _ => ⟨rfl, rfl, (by decide : 4 + 0 ≤ _), (by decide : 16 + 0 ≤ _)⟩)
  dsimp only [Pt.U, Pt.locs, Pt.cells, Pt.slots] at X72 l72 y72 z72 st72 hQ72
  subst l72 y72 z72
  obtain ⟨rfl, N72q, e72⟩ := hQ72
  have N72 := Fr.app N70 N72q
  have pre72 : ∀ t, Steps p.tables e below (T72.setTop (mkF m 132 #[.val (.int av), .val (.int bv), .val (.long cv), .second, .val (.int lb), .val (.int sb), .val (.int xv), .val (.int yv), .val (.int lov), .val (.int hiv), .val (.long sp), .second, .val (.int mv), .val (.ref b56), .val (.ref b60), .val (.ref b64), .val (.ref b68), .unset, .unset, .unset, .unset, .unset, .unset, .unset, .unset] [(.int (f6 lov hiv))])) t → Steps p.tables e below (s₁.setTop (entryFrame m #[(.int av), (.int bv), (.long cv), (.int lb), (.int sb)] maxLocals)) t := fun t k => pre71 _ (st72.trans k)
  have pre73 : ∀ t, Steps p.tables e below (T72.setTop (mkF m 137 #[.val (.int av), .val (.int bv), .val (.long cv), .second, .val (.int lb), .val (.int sb), .val (.int xv), .val (.int yv), .val (.int lov), .val (.int hiv), .val (.long sp), .second, .val (.int mv), .val (.ref b56), .val (.ref b60), .val (.ref b64), .val (.ref b68), .val (.long ((f6 lov hiv).toInt64)), .second, .unset, .unset, .unset, .unset, .unset, .unset] [(.ref b60)])) t → Steps p.tables e below (s₁.setTop (entryFrame m #[(.int av), (.int bv), (.long cv), (.int lb), (.int sb)] maxLocals)) t := fun t k => by
    refine pre72 _ ?_
    show Steps p.tables e below (T72.setTop (mkF m 132 #[.val (.int av), .val (.int bv), .val (.long cv), .second, .val (.int lb), .val (.int sb), .val (.int xv), .val (.int yv), .val (.int lov), .val (.int hiv), .val (.long sp), .second, .val (.int mv), .val (.ref b56), .val (.ref b60), .val (.ref b64), .val (.ref b68), .unset, .unset, .unset, .unset, .unset, .unset, .unset, .unset] [(.int (f6 lov hiv))])) _
    refine XS.i2l X72.here hx rfl (hb hby at_132) rfl ?_
    show Steps p.tables e below (T72.setTop (mkF m 133 #[.val (.int av), .val (.int bv), .val (.long cv), .second, .val (.int lb), .val (.int sb), .val (.int xv), .val (.int yv), .val (.int lov), .val (.int hiv), .val (.long sp), .second, .val (.int mv), .val (.ref b56), .val (.ref b60), .val (.ref b64), .val (.ref b68), .unset, .unset, .unset, .unset, .unset, .unset, .unset, .unset] [(.long ((f6 lov hiv).toInt64))])) _
    refine XS.lstore X72.here hx rfl (hb hby at_133) rfl (l' := #[.val (.int av), .val (.int bv), .val (.long cv), .second, .val (.int lb), .val (.int sb), .val (.int xv), .val (.int yv), .val (.int lov), .val (.int hiv), .val (.long sp), .second, .val (.int mv), .val (.ref b56), .val (.ref b60), .val (.ref b64), .val (.ref b68), .val (.long ((f6 lov hiv).toInt64)), .second, .unset, .unset, .unset, .unset, .unset, .unset]) rfl ?_
    show Steps p.tables e below (T72.setTop (mkF m 135 #[.val (.int av), .val (.int bv), .val (.long cv), .second, .val (.int lb), .val (.int sb), .val (.int xv), .val (.int yv), .val (.int lov), .val (.int hiv), .val (.long sp), .second, .val (.int mv), .val (.ref b56), .val (.ref b60), .val (.ref b64), .val (.ref b68), .val (.long ((f6 lov hiv).toInt64)), .second, .unset, .unset, .unset, .unset, .unset, .unset] [])) _
    refine XS.aload X72.here hx rfl (hb hby at_135) rfl rfl ?_
    show Steps p.tables e below (T72.setTop (mkF m 137 #[.val (.int av), .val (.int bv), .val (.long cv), .second, .val (.int lb), .val (.int sb), .val (.int xv), .val (.int yv), .val (.int lov), .val (.int hiv), .val (.long sp), .second, .val (.int mv), .val (.ref b56), .val (.ref b60), .val (.ref b64), .val (.ref b68), .val (.long ((f6 lov hiv).toInt64)), .second, .unset, .unset, .unset, .unset, .unset, .unset] [(.ref b60)])) _
    exact k
  obtain ⟨cq74, kq74, q74a, q74b, q74c⟩ := isOf hZ e72 F70_5
  obtain ⟨_, _, ⟨T74, L74, k74, n74⟩, -, X74, ⟨Lc74, hQ74, l74, y74, z74⟩, st74⟩ := X72.virtualBack hx (y := (⟨"com/example/novation/novation/risk/Backtest", "days", "()I"⟩ : MethodName)) (z := (⟨"com/example/novation/novation/risk/Backtest", "days", "()I"⟩ : MethodName)) hown (mvT hZ (hw _ (List.mem_of_getElem? (i := 31) rfl))) (mvT hZ (hw _ (List.mem_of_getElem? (i := 32) rfl))) (notFace_of_selects (args := #[]) (mvT hZ (hw _ (List.mem_of_getElem? (i := 34) rfl)))) (mvT hZ (hw _ (List.mem_of_getElem? (i := 34) rfl))) (mvT hZ (hw _ (List.mem_of_getElem? (i := 33) rfl))) (by decide) (backOf (W := 0) (rm6 l Z aZ hw [] b60 lov mv T70.heap n0 Zs70 F70_6 F70_7) hZ (hw _ (List.mem_of_getElem? (i := 35) rfl)) (hw _ (List.mem_of_getElem? (i := 11) rfl)) (by decide) (by decide)) q74a q74c (g := (mkF m 137 #[.val (.int av), .val (.int bv), .val (.long cv), .second, .val (.int lb), .val (.int sb), .val (.int xv), .val (.int yv), .val (.int lov), .val (.int hiv), .val (.long sp), .second, .val (.int mv), .val (.ref b56), .val (.ref b60), .val (.ref b64), .val (.ref b68), .val (.long ((f6 lov hiv).toInt64)), .second, .unset, .unset, .unset, .unset, .unset, .unset] [(.ref b60)])) rfl (by rw [hml]; rfl) (Steps.refl _) (argsL := []) (rest := []) (lenOf pd_3 rfl) rfl (by show 2 * 0 + _ ≤ _; exact Nat.le_of_eq rfl) (hb hby at_137) (fun _ _ => ⟨rfl, e72, (by decide : 4 + 0 ≤ _), (by decide : 16 + 0 ≤ _)⟩)
  dsimp only [Pt.U, Pt.locs, Pt.cells, Pt.slots] at X74 l74 y74 z74 st74 hQ74
  subst l74 y74 z74
  obtain ⟨rfl, N74q, e74⟩ := hQ74
  have N74 := Fr.app N72 N74q
  have pre74 : ∀ t, Steps p.tables e below (T74.setTop (mkF m 140 #[.val (.int av), .val (.int bv), .val (.long cv), .second, .val (.int lb), .val (.int sb), .val (.int xv), .val (.int yv), .val (.int lov), .val (.int hiv), .val (.long sp), .second, .val (.int mv), .val (.ref b56), .val (.ref b60), .val (.ref b64), .val (.ref b68), .val (.long ((f6 lov hiv).toInt64)), .second, .unset, .unset, .unset, .unset, .unset, .unset] [(.int (f6 lov mv))])) t → Steps p.tables e below (s₁.setTop (entryFrame m #[(.int av), (.int bv), (.long cv), (.int lb), (.int sb)] maxLocals)) t := fun t k => pre73 _ (st74.trans k)
  have pre75 : ∀ t, Steps p.tables e below (T74.setTop (mkF m 145 #[.val (.int av), .val (.int bv), .val (.long cv), .second, .val (.int lb), .val (.int sb), .val (.int xv), .val (.int yv), .val (.int lov), .val (.int hiv), .val (.long sp), .second, .val (.int mv), .val (.ref b56), .val (.ref b60), .val (.ref b64), .val (.ref b68), .val (.long ((f6 lov hiv).toInt64)), .second, .val (.long ((f6 lov mv).toInt64)), .second, .unset, .unset, .unset, .unset] [(.ref b64)])) t → Steps p.tables e below (s₁.setTop (entryFrame m #[(.int av), (.int bv), (.long cv), (.int lb), (.int sb)] maxLocals)) t := fun t k => by
    refine pre74 _ ?_
    show Steps p.tables e below (T74.setTop (mkF m 140 #[.val (.int av), .val (.int bv), .val (.long cv), .second, .val (.int lb), .val (.int sb), .val (.int xv), .val (.int yv), .val (.int lov), .val (.int hiv), .val (.long sp), .second, .val (.int mv), .val (.ref b56), .val (.ref b60), .val (.ref b64), .val (.ref b68), .val (.long ((f6 lov hiv).toInt64)), .second, .unset, .unset, .unset, .unset, .unset, .unset] [(.int (f6 lov mv))])) _
    refine XS.i2l X74.here hx rfl (hb hby at_140) rfl ?_
    show Steps p.tables e below (T74.setTop (mkF m 141 #[.val (.int av), .val (.int bv), .val (.long cv), .second, .val (.int lb), .val (.int sb), .val (.int xv), .val (.int yv), .val (.int lov), .val (.int hiv), .val (.long sp), .second, .val (.int mv), .val (.ref b56), .val (.ref b60), .val (.ref b64), .val (.ref b68), .val (.long ((f6 lov hiv).toInt64)), .second, .unset, .unset, .unset, .unset, .unset, .unset] [(.long ((f6 lov mv).toInt64))])) _
    refine XS.lstore X74.here hx rfl (hb hby at_141) rfl (l' := #[.val (.int av), .val (.int bv), .val (.long cv), .second, .val (.int lb), .val (.int sb), .val (.int xv), .val (.int yv), .val (.int lov), .val (.int hiv), .val (.long sp), .second, .val (.int mv), .val (.ref b56), .val (.ref b60), .val (.ref b64), .val (.ref b68), .val (.long ((f6 lov hiv).toInt64)), .second, .val (.long ((f6 lov mv).toInt64)), .second, .unset, .unset, .unset, .unset]) rfl ?_
    show Steps p.tables e below (T74.setTop (mkF m 143 #[.val (.int av), .val (.int bv), .val (.long cv), .second, .val (.int lb), .val (.int sb), .val (.int xv), .val (.int yv), .val (.int lov), .val (.int hiv), .val (.long sp), .second, .val (.int mv), .val (.ref b56), .val (.ref b60), .val (.ref b64), .val (.ref b68), .val (.long ((f6 lov hiv).toInt64)), .second, .val (.long ((f6 lov mv).toInt64)), .second, .unset, .unset, .unset, .unset] [])) _
    refine XS.aload X74.here hx rfl (hb hby at_143) rfl rfl ?_
    show Steps p.tables e below (T74.setTop (mkF m 145 #[.val (.int av), .val (.int bv), .val (.long cv), .second, .val (.int lb), .val (.int sb), .val (.int xv), .val (.int yv), .val (.int lov), .val (.int hiv), .val (.long sp), .second, .val (.int mv), .val (.ref b56), .val (.ref b60), .val (.ref b64), .val (.ref b68), .val (.long ((f6 lov hiv).toInt64)), .second, .val (.long ((f6 lov mv).toInt64)), .second, .unset, .unset, .unset, .unset] [(.ref b64)])) _
    exact k
  obtain ⟨cq76, kq76, q76a, q76b, q76c⟩ := isOf hZ e74 F70_10
  obtain ⟨_, _, ⟨T76, L76, k76, n76⟩, -, X76, ⟨Lc76, hQ76, l76, y76, z76⟩, st76⟩ := X74.virtualBack hx (y := (⟨"com/example/novation/novation/risk/Backtest", "days", "()I"⟩ : MethodName)) (z := (⟨"com/example/novation/novation/risk/Backtest", "days", "()I"⟩ : MethodName)) hown (mvT hZ (hw _ (List.mem_of_getElem? (i := 31) rfl))) (mvT hZ (hw _ (List.mem_of_getElem? (i := 32) rfl))) (notFace_of_selects (args := #[]) (mvT hZ (hw _ (List.mem_of_getElem? (i := 34) rfl)))) (mvT hZ (hw _ (List.mem_of_getElem? (i := 34) rfl))) (mvT hZ (hw _ (List.mem_of_getElem? (i := 33) rfl))) (by decide) (backOf (W := 0) (rm6 l Z aZ hw [] b64 mv hiv T70.heap n0 Zs70 F70_11 F70_12) hZ (hw _ (List.mem_of_getElem? (i := 35) rfl)) (hw _ (List.mem_of_getElem? (i := 11) rfl)) (by decide) (by decide)) q76a q76c (g := (mkF m 145 #[.val (.int av), .val (.int bv), .val (.long cv), .second, .val (.int lb), .val (.int sb), .val (.int xv), .val (.int yv), .val (.int lov), .val (.int hiv), .val (.long sp), .second, .val (.int mv), .val (.ref b56), .val (.ref b60), .val (.ref b64), .val (.ref b68), .val (.long ((f6 lov hiv).toInt64)), .second, .val (.long ((f6 lov mv).toInt64)), .second, .unset, .unset, .unset, .unset] [(.ref b64)])) rfl (by rw [hml]; rfl) (Steps.refl _) (argsL := []) (rest := []) (lenOf pd_3 rfl) rfl (by show 2 * 0 + _ ≤ _; exact Nat.le_of_eq rfl) (hb hby at_145) (fun _ _ => ⟨rfl, e74, (by decide : 4 + 0 ≤ _), (by decide : 16 + 0 ≤ _)⟩)
  dsimp only [Pt.U, Pt.locs, Pt.cells, Pt.slots] at X76 l76 y76 z76 st76 hQ76
  subst l76 y76 z76
  obtain ⟨rfl, N76q, e76⟩ := hQ76
  have N76 := Fr.app N74 N76q
  have pre76 : ∀ t, Steps p.tables e below (T76.setTop (mkF m 148 #[.val (.int av), .val (.int bv), .val (.long cv), .second, .val (.int lb), .val (.int sb), .val (.int xv), .val (.int yv), .val (.int lov), .val (.int hiv), .val (.long sp), .second, .val (.int mv), .val (.ref b56), .val (.ref b60), .val (.ref b64), .val (.ref b68), .val (.long ((f6 lov hiv).toInt64)), .second, .val (.long ((f6 lov mv).toInt64)), .second, .unset, .unset, .unset, .unset] [(.int (f6 mv hiv))])) t → Steps p.tables e below (s₁.setTop (entryFrame m #[(.int av), (.int bv), (.long cv), (.int lb), (.int sb)] maxLocals)) t := fun t k => pre75 _ (st76.trans k)
  have pre77 : ∀ t, Steps p.tables e below (T76.setTop (mkF m 153 #[.val (.int av), .val (.int bv), .val (.long cv), .second, .val (.int lb), .val (.int sb), .val (.int xv), .val (.int yv), .val (.int lov), .val (.int hiv), .val (.long sp), .second, .val (.int mv), .val (.ref b56), .val (.ref b60), .val (.ref b64), .val (.ref b68), .val (.long ((f6 lov hiv).toInt64)), .second, .val (.long ((f6 lov mv).toInt64)), .second, .val (.long ((f6 mv hiv).toInt64)), .second, .unset, .unset] [(.ref b68)])) t → Steps p.tables e below (s₁.setTop (entryFrame m #[(.int av), (.int bv), (.long cv), (.int lb), (.int sb)] maxLocals)) t := fun t k => by
    refine pre76 _ ?_
    show Steps p.tables e below (T76.setTop (mkF m 148 #[.val (.int av), .val (.int bv), .val (.long cv), .second, .val (.int lb), .val (.int sb), .val (.int xv), .val (.int yv), .val (.int lov), .val (.int hiv), .val (.long sp), .second, .val (.int mv), .val (.ref b56), .val (.ref b60), .val (.ref b64), .val (.ref b68), .val (.long ((f6 lov hiv).toInt64)), .second, .val (.long ((f6 lov mv).toInt64)), .second, .unset, .unset, .unset, .unset] [(.int (f6 mv hiv))])) _
    refine XS.i2l X76.here hx rfl (hb hby at_148) rfl ?_
    show Steps p.tables e below (T76.setTop (mkF m 149 #[.val (.int av), .val (.int bv), .val (.long cv), .second, .val (.int lb), .val (.int sb), .val (.int xv), .val (.int yv), .val (.int lov), .val (.int hiv), .val (.long sp), .second, .val (.int mv), .val (.ref b56), .val (.ref b60), .val (.ref b64), .val (.ref b68), .val (.long ((f6 lov hiv).toInt64)), .second, .val (.long ((f6 lov mv).toInt64)), .second, .unset, .unset, .unset, .unset] [(.long ((f6 mv hiv).toInt64))])) _
    refine XS.lstore X76.here hx rfl (hb hby at_149) rfl (l' := #[.val (.int av), .val (.int bv), .val (.long cv), .second, .val (.int lb), .val (.int sb), .val (.int xv), .val (.int yv), .val (.int lov), .val (.int hiv), .val (.long sp), .second, .val (.int mv), .val (.ref b56), .val (.ref b60), .val (.ref b64), .val (.ref b68), .val (.long ((f6 lov hiv).toInt64)), .second, .val (.long ((f6 lov mv).toInt64)), .second, .val (.long ((f6 mv hiv).toInt64)), .second, .unset, .unset]) rfl ?_
    show Steps p.tables e below (T76.setTop (mkF m 151 #[.val (.int av), .val (.int bv), .val (.long cv), .second, .val (.int lb), .val (.int sb), .val (.int xv), .val (.int yv), .val (.int lov), .val (.int hiv), .val (.long sp), .second, .val (.int mv), .val (.ref b56), .val (.ref b60), .val (.ref b64), .val (.ref b68), .val (.long ((f6 lov hiv).toInt64)), .second, .val (.long ((f6 lov mv).toInt64)), .second, .val (.long ((f6 mv hiv).toInt64)), .second, .unset, .unset] [])) _
    refine XS.aload X76.here hx rfl (hb hby at_151) rfl rfl ?_
    show Steps p.tables e below (T76.setTop (mkF m 153 #[.val (.int av), .val (.int bv), .val (.long cv), .second, .val (.int lb), .val (.int sb), .val (.int xv), .val (.int yv), .val (.int lov), .val (.int hiv), .val (.long sp), .second, .val (.int mv), .val (.ref b56), .val (.ref b60), .val (.ref b64), .val (.ref b68), .val (.long ((f6 lov hiv).toInt64)), .second, .val (.long ((f6 lov mv).toInt64)), .second, .val (.long ((f6 mv hiv).toInt64)), .second, .unset, .unset] [(.ref b68)])) _
    exact k
  obtain ⟨cq78, kq78, q78a, q78b, q78c⟩ := isOf hZ e76 Ex70
  obtain ⟨_, _, ⟨T78, L78, k78, n78⟩, -, X78, ⟨Lc78, hQ78, l78, y78, z78⟩, st78⟩ := X76.virtualBack hx (y := (⟨"com/example/novation/novation/risk/Backtest", "days", "()I"⟩ : MethodName)) (z := (⟨"com/example/novation/novation/risk/Backtest", "days", "()I"⟩ : MethodName)) hown (mvT hZ (hw _ (List.mem_of_getElem? (i := 31) rfl))) (mvT hZ (hw _ (List.mem_of_getElem? (i := 32) rfl))) (notFace_of_selects (args := #[]) (mvT hZ (hw _ (List.mem_of_getElem? (i := 34) rfl)))) (mvT hZ (hw _ (List.mem_of_getElem? (i := 34) rfl))) (mvT hZ (hw _ (List.mem_of_getElem? (i := 33) rfl))) (by decide) (backOf (W := 0) (rm6 l Z aZ hw [] b68 mv mv T70.heap n0 Zs70 Fc70_firstDay Fc70_lastDay) hZ (hw _ (List.mem_of_getElem? (i := 35) rfl)) (hw _ (List.mem_of_getElem? (i := 11) rfl)) (by decide) (by decide)) q78a q78c (g := (mkF m 153 #[.val (.int av), .val (.int bv), .val (.long cv), .second, .val (.int lb), .val (.int sb), .val (.int xv), .val (.int yv), .val (.int lov), .val (.int hiv), .val (.long sp), .second, .val (.int mv), .val (.ref b56), .val (.ref b60), .val (.ref b64), .val (.ref b68), .val (.long ((f6 lov hiv).toInt64)), .second, .val (.long ((f6 lov mv).toInt64)), .second, .val (.long ((f6 mv hiv).toInt64)), .second, .unset, .unset] [(.ref b68)])) rfl (by rw [hml]; rfl) (Steps.refl _) (argsL := []) (rest := []) (lenOf pd_3 rfl) rfl (by show 2 * 0 + _ ≤ _; exact Nat.le_of_eq rfl) (hb hby at_153) (fun _ _ => ⟨rfl, e76, (by decide : 4 + 0 ≤ _), (by decide : 16 + 0 ≤ _)⟩)
  dsimp only [Pt.U, Pt.locs, Pt.cells, Pt.slots] at X78 l78 y78 z78 st78 hQ78
  subst l78 y78 z78
  obtain ⟨rfl, N78q, e78⟩ := hQ78
  have N78 := Fr.app N76 N78q
  have pre78 : ∀ t, Steps p.tables e below (T78.setTop (mkF m 156 #[.val (.int av), .val (.int bv), .val (.long cv), .second, .val (.int lb), .val (.int sb), .val (.int xv), .val (.int yv), .val (.int lov), .val (.int hiv), .val (.long sp), .second, .val (.int mv), .val (.ref b56), .val (.ref b60), .val (.ref b64), .val (.ref b68), .val (.long ((f6 lov hiv).toInt64)), .second, .val (.long ((f6 lov mv).toInt64)), .second, .val (.long ((f6 mv hiv).toInt64)), .second, .unset, .unset] [(.int (f6 mv mv))])) t → Steps p.tables e below (s₁.setTop (entryFrame m #[(.int av), (.int bv), (.long cv), (.int lb), (.int sb)] maxLocals)) t := fun t k => pre77 _ (st78.trans k)
  have pre79 : ∀ t, Steps p.tables e below (T78.setTop (mkF m 159 #[.val (.int av), .val (.int bv), .val (.long cv), .second, .val (.int lb), .val (.int sb), .val (.int xv), .val (.int yv), .val (.int lov), .val (.int hiv), .val (.long sp), .second, .val (.int mv), .val (.ref b56), .val (.ref b60), .val (.ref b64), .val (.ref b68), .val (.long ((f6 lov hiv).toInt64)), .second, .val (.long ((f6 lov mv).toInt64)), .second, .val (.long ((f6 mv hiv).toInt64)), .second, .val (.long ((f6 mv mv).toInt64)), .second] [])) t → Steps p.tables e below (s₁.setTop (entryFrame m #[(.int av), (.int bv), (.long cv), (.int lb), (.int sb)] maxLocals)) t := fun t k => by
    refine pre78 _ ?_
    show Steps p.tables e below (T78.setTop (mkF m 156 #[.val (.int av), .val (.int bv), .val (.long cv), .second, .val (.int lb), .val (.int sb), .val (.int xv), .val (.int yv), .val (.int lov), .val (.int hiv), .val (.long sp), .second, .val (.int mv), .val (.ref b56), .val (.ref b60), .val (.ref b64), .val (.ref b68), .val (.long ((f6 lov hiv).toInt64)), .second, .val (.long ((f6 lov mv).toInt64)), .second, .val (.long ((f6 mv hiv).toInt64)), .second, .unset, .unset] [(.int (f6 mv mv))])) _
    refine XS.i2l X78.here hx rfl (hb hby at_156) rfl ?_
    show Steps p.tables e below (T78.setTop (mkF m 157 #[.val (.int av), .val (.int bv), .val (.long cv), .second, .val (.int lb), .val (.int sb), .val (.int xv), .val (.int yv), .val (.int lov), .val (.int hiv), .val (.long sp), .second, .val (.int mv), .val (.ref b56), .val (.ref b60), .val (.ref b64), .val (.ref b68), .val (.long ((f6 lov hiv).toInt64)), .second, .val (.long ((f6 lov mv).toInt64)), .second, .val (.long ((f6 mv hiv).toInt64)), .second, .unset, .unset] [(.long ((f6 mv mv).toInt64))])) _
    refine XS.lstore X78.here hx rfl (hb hby at_157) rfl (l' := #[.val (.int av), .val (.int bv), .val (.long cv), .second, .val (.int lb), .val (.int sb), .val (.int xv), .val (.int yv), .val (.int lov), .val (.int hiv), .val (.long sp), .second, .val (.int mv), .val (.ref b56), .val (.ref b60), .val (.ref b64), .val (.ref b68), .val (.long ((f6 lov hiv).toInt64)), .second, .val (.long ((f6 lov mv).toInt64)), .second, .val (.long ((f6 mv hiv).toInt64)), .second, .val (.long ((f6 mv mv).toInt64)), .second]) rfl ?_
    show Steps p.tables e below (T78.setTop (mkF m 159 #[.val (.int av), .val (.int bv), .val (.long cv), .second, .val (.int lb), .val (.int sb), .val (.int xv), .val (.int yv), .val (.int lov), .val (.int hiv), .val (.long sp), .second, .val (.int mv), .val (.ref b56), .val (.ref b60), .val (.ref b64), .val (.ref b68), .val (.long ((f6 lov hiv).toInt64)), .second, .val (.long ((f6 lov mv).toInt64)), .second, .val (.long ((f6 mv hiv).toInt64)), .second, .val (.long ((f6 mv mv).toInt64)), .second] [])) _
    exact k
  obtain ⟨fs, hr, hrun, hended, hW, hsame⟩ := X78.leave (v := some (.int (1 : Int32))) (fun h => by rw [Bd.returns] at h; cases h)
  refine ⟨_, _, pre79 _ ?_, hrun, hended, _, _, rfl, ?_, ⟨_, rfl⟩, hW, hsame.mono (by decide) (by decide)⟩
  · show Steps p.tables e below (T78.setTop (mkF m 159 #[.val (.int av), .val (.int bv), .val (.long cv), .second, .val (.int lb), .val (.int sb), .val (.int xv), .val (.int yv), .val (.int lov), .val (.int hiv), .val (.long sp), .second, .val (.int mv), .val (.ref b56), .val (.ref b60), .val (.ref b64), .val (.ref b68), .val (.long ((f6 lov hiv).toInt64)), .second, .val (.long ((f6 lov mv).toInt64)), .second, .val (.long ((f6 mv hiv).toInt64)), .second, .val (.long ((f6 mv mv).toInt64)), .second] [])) _
    refine XS.lload X78.here hx rfl (hb hby at_159) rfl ?_
    show Steps p.tables e below (T78.setTop (mkF m 161 #[.val (.int av), .val (.int bv), .val (.long cv), .second, .val (.int lb), .val (.int sb), .val (.int xv), .val (.int yv), .val (.int lov), .val (.int hiv), .val (.long sp), .second, .val (.int mv), .val (.ref b56), .val (.ref b60), .val (.ref b64), .val (.ref b68), .val (.long ((f6 lov hiv).toInt64)), .second, .val (.long ((f6 lov mv).toInt64)), .second, .val (.long ((f6 mv hiv).toInt64)), .second, .val (.long ((f6 mv mv).toInt64)), .second] [(.long ((f6 mv mv).toInt64))])) _
    refine XS.lconst X78.here hx rfl (hb hby at_161) ?_
    show Steps p.tables e below (T78.setTop (mkF m 162 #[.val (.int av), .val (.int bv), .val (.long cv), .second, .val (.int lb), .val (.int sb), .val (.int xv), .val (.int yv), .val (.int lov), .val (.int hiv), .val (.long sp), .second, .val (.int mv), .val (.ref b56), .val (.ref b60), .val (.ref b64), .val (.ref b68), .val (.long ((f6 lov hiv).toInt64)), .second, .val (.long ((f6 lov mv).toInt64)), .second, .val (.long ((f6 mv hiv).toInt64)), .second, .val (.long ((f6 mv mv).toInt64)), .second] [(.long (1 : Int64)), (.long ((f6 mv mv).toInt64))])) _
    refine XS.lcmp X78.here hx rfl (hb hby at_162) rfl ?_
    show Steps p.tables e below (T78.setTop (mkF m 163 #[.val (.int av), .val (.int bv), .val (.long cv), .second, .val (.int lb), .val (.int sb), .val (.int xv), .val (.int yv), .val (.int lov), .val (.int hiv), .val (.long sp), .second, .val (.int mv), .val (.ref b56), .val (.ref b60), .val (.ref b64), .val (.ref b68), .val (.long ((f6 lov hiv).toInt64)), .second, .val (.long ((f6 lov mv).toInt64)), .second, .val (.long ((f6 mv hiv).toInt64)), .second, .val (.long ((f6 mv mv).toInt64)), .second] [(.int (lcmpW ((f6 mv mv).toInt64) (1 : Int64)))])) _
    refine XS.ifNo X78.here hx rfl (hb hby at_163) rfl ((if0 _ _).trans (teq ((lw_eq ((f6 mv mv).toInt64) (1 : Int64)).mpr hl.1)).2) ?_
    show Steps p.tables e below (T78.setTop (mkF m 166 #[.val (.int av), .val (.int bv), .val (.long cv), .second, .val (.int lb), .val (.int sb), .val (.int xv), .val (.int yv), .val (.int lov), .val (.int hiv), .val (.long sp), .second, .val (.int mv), .val (.ref b56), .val (.ref b60), .val (.ref b64), .val (.ref b68), .val (.long ((f6 lov hiv).toInt64)), .second, .val (.long ((f6 lov mv).toInt64)), .second, .val (.long ((f6 mv hiv).toInt64)), .second, .val (.long ((f6 mv mv).toInt64)), .second] [])) _
    refine XS.lload X78.here hx rfl (hb hby at_166) rfl ?_
    show Steps p.tables e below (T78.setTop (mkF m 168 #[.val (.int av), .val (.int bv), .val (.long cv), .second, .val (.int lb), .val (.int sb), .val (.int xv), .val (.int yv), .val (.int lov), .val (.int hiv), .val (.long sp), .second, .val (.int mv), .val (.ref b56), .val (.ref b60), .val (.ref b64), .val (.ref b68), .val (.long ((f6 lov hiv).toInt64)), .second, .val (.long ((f6 lov mv).toInt64)), .second, .val (.long ((f6 mv hiv).toInt64)), .second, .val (.long ((f6 mv mv).toInt64)), .second] [(.long ((f6 lov hiv).toInt64))])) _
    refine XS.lconst X78.here hx rfl (hb hby at_168) ?_
    show Steps p.tables e below (T78.setTop (mkF m 169 #[.val (.int av), .val (.int bv), .val (.long cv), .second, .val (.int lb), .val (.int sb), .val (.int xv), .val (.int yv), .val (.int lov), .val (.int hiv), .val (.long sp), .second, .val (.int mv), .val (.ref b56), .val (.ref b60), .val (.ref b64), .val (.ref b68), .val (.long ((f6 lov hiv).toInt64)), .second, .val (.long ((f6 lov mv).toInt64)), .second, .val (.long ((f6 mv hiv).toInt64)), .second, .val (.long ((f6 mv mv).toInt64)), .second] [(.long (1 : Int64)), (.long ((f6 lov hiv).toInt64))])) _
    refine XS.lcmp X78.here hx rfl (hb hby at_169) rfl ?_
    show Steps p.tables e below (T78.setTop (mkF m 170 #[.val (.int av), .val (.int bv), .val (.long cv), .second, .val (.int lb), .val (.int sb), .val (.int xv), .val (.int yv), .val (.int lov), .val (.int hiv), .val (.long sp), .second, .val (.int mv), .val (.ref b56), .val (.ref b60), .val (.ref b64), .val (.ref b68), .val (.long ((f6 lov hiv).toInt64)), .second, .val (.long ((f6 lov mv).toInt64)), .second, .val (.long ((f6 mv hiv).toInt64)), .second, .val (.long ((f6 mv mv).toInt64)), .second] [(.int (lcmpW ((f6 lov hiv).toInt64) (1 : Int64)))])) _
    refine XS.ifNo X78.here hx rfl (hb hby at_170) rfl ((if0 _ _).trans (flt (fun q => hl.2.1 ((lw_lt ((f6 lov hiv).toInt64) (1 : Int64)).mp q))).1) ?_
    show Steps p.tables e below (T78.setTop (mkF m 173 #[.val (.int av), .val (.int bv), .val (.long cv), .second, .val (.int lb), .val (.int sb), .val (.int xv), .val (.int yv), .val (.int lov), .val (.int hiv), .val (.long sp), .second, .val (.int mv), .val (.ref b56), .val (.ref b60), .val (.ref b64), .val (.ref b68), .val (.long ((f6 lov hiv).toInt64)), .second, .val (.long ((f6 lov mv).toInt64)), .second, .val (.long ((f6 mv hiv).toInt64)), .second, .val (.long ((f6 mv mv).toInt64)), .second] [])) _
    refine XS.lload X78.here hx rfl (hb hby at_173) rfl ?_
    show Steps p.tables e below (T78.setTop (mkF m 175 #[.val (.int av), .val (.int bv), .val (.long cv), .second, .val (.int lb), .val (.int sb), .val (.int xv), .val (.int yv), .val (.int lov), .val (.int hiv), .val (.long sp), .second, .val (.int mv), .val (.ref b56), .val (.ref b60), .val (.ref b64), .val (.ref b68), .val (.long ((f6 lov hiv).toInt64)), .second, .val (.long ((f6 lov mv).toInt64)), .second, .val (.long ((f6 mv hiv).toInt64)), .second, .val (.long ((f6 mv mv).toInt64)), .second] [(.long ((f6 lov hiv).toInt64))])) _
    refine XS.iload X78.here hx rfl (hb hby at_175) rfl ?_
    show Steps p.tables e below (T78.setTop (mkF m 177 #[.val (.int av), .val (.int bv), .val (.long cv), .second, .val (.int lb), .val (.int sb), .val (.int xv), .val (.int yv), .val (.int lov), .val (.int hiv), .val (.long sp), .second, .val (.int mv), .val (.ref b56), .val (.ref b60), .val (.ref b64), .val (.ref b68), .val (.long ((f6 lov hiv).toInt64)), .second, .val (.long ((f6 lov mv).toInt64)), .second, .val (.long ((f6 mv hiv).toInt64)), .second, .val (.long ((f6 mv mv).toInt64)), .second] [(.int hiv), (.long ((f6 lov hiv).toInt64))])) _
    refine XS.i2l X78.here hx rfl (hb hby at_177) rfl ?_
    show Steps p.tables e below (T78.setTop (mkF m 178 #[.val (.int av), .val (.int bv), .val (.long cv), .second, .val (.int lb), .val (.int sb), .val (.int xv), .val (.int yv), .val (.int lov), .val (.int hiv), .val (.long sp), .second, .val (.int mv), .val (.ref b56), .val (.ref b60), .val (.ref b64), .val (.ref b68), .val (.long ((f6 lov hiv).toInt64)), .second, .val (.long ((f6 lov mv).toInt64)), .second, .val (.long ((f6 mv hiv).toInt64)), .second, .val (.long ((f6 mv mv).toInt64)), .second] [(.long (hiv.toInt64)), (.long ((f6 lov hiv).toInt64))])) _
    refine XS.lconst X78.here hx rfl (hb hby at_178) ?_
    show Steps p.tables e below (T78.setTop (mkF m 179 #[.val (.int av), .val (.int bv), .val (.long cv), .second, .val (.int lb), .val (.int sb), .val (.int xv), .val (.int yv), .val (.int lov), .val (.int hiv), .val (.long sp), .second, .val (.int mv), .val (.ref b56), .val (.ref b60), .val (.ref b64), .val (.ref b68), .val (.long ((f6 lov hiv).toInt64)), .second, .val (.long ((f6 lov mv).toInt64)), .second, .val (.long ((f6 mv hiv).toInt64)), .second, .val (.long ((f6 mv mv).toInt64)), .second] [(.long (1 : Int64)), (.long (hiv.toInt64)), (.long ((f6 lov hiv).toInt64))])) _
    refine XS.ladd X78.here hx rfl (hb hby at_179) rfl ?_
    show Steps p.tables e below (T78.setTop (mkF m 180 #[.val (.int av), .val (.int bv), .val (.long cv), .second, .val (.int lb), .val (.int sb), .val (.int xv), .val (.int yv), .val (.int lov), .val (.int hiv), .val (.long sp), .second, .val (.int mv), .val (.ref b56), .val (.ref b60), .val (.ref b64), .val (.ref b68), .val (.long ((f6 lov hiv).toInt64)), .second, .val (.long ((f6 lov mv).toInt64)), .second, .val (.long ((f6 mv hiv).toInt64)), .second, .val (.long ((f6 mv mv).toInt64)), .second] [(.long ((hiv.toInt64) + (1 : Int64))), (.long ((f6 lov hiv).toInt64))])) _
    refine XS.lcmp X78.here hx rfl (hb hby at_180) rfl ?_
    show Steps p.tables e below (T78.setTop (mkF m 181 #[.val (.int av), .val (.int bv), .val (.long cv), .second, .val (.int lb), .val (.int sb), .val (.int xv), .val (.int yv), .val (.int lov), .val (.int hiv), .val (.long sp), .second, .val (.int mv), .val (.ref b56), .val (.ref b60), .val (.ref b64), .val (.ref b68), .val (.long ((f6 lov hiv).toInt64)), .second, .val (.long ((f6 lov mv).toInt64)), .second, .val (.long ((f6 mv hiv).toInt64)), .second, .val (.long ((f6 mv mv).toInt64)), .second] [(.int (lcmpW ((f6 lov hiv).toInt64) ((hiv.toInt64) + (1 : Int64))))])) _
    refine XS.ifNo X78.here hx rfl (hb hby at_181) rfl ((if0 _ _).trans (flt (fun q => hl.2.2.1 ((lw_gt ((f6 lov hiv).toInt64) ((hiv.toInt64) + (1 : Int64))).mp q))).2.2.1) ?_
    show Steps p.tables e below (T78.setTop (mkF m 184 #[.val (.int av), .val (.int bv), .val (.long cv), .second, .val (.int lb), .val (.int sb), .val (.int xv), .val (.int yv), .val (.int lov), .val (.int hiv), .val (.long sp), .second, .val (.int mv), .val (.ref b56), .val (.ref b60), .val (.ref b64), .val (.ref b68), .val (.long ((f6 lov hiv).toInt64)), .second, .val (.long ((f6 lov mv).toInt64)), .second, .val (.long ((f6 mv hiv).toInt64)), .second, .val (.long ((f6 mv mv).toInt64)), .second] [])) _
    refine XS.lload X78.here hx rfl (hb hby at_184) rfl ?_
    show Steps p.tables e below (T78.setTop (mkF m 186 #[.val (.int av), .val (.int bv), .val (.long cv), .second, .val (.int lb), .val (.int sb), .val (.int xv), .val (.int yv), .val (.int lov), .val (.int hiv), .val (.long sp), .second, .val (.int mv), .val (.ref b56), .val (.ref b60), .val (.ref b64), .val (.ref b68), .val (.long ((f6 lov hiv).toInt64)), .second, .val (.long ((f6 lov mv).toInt64)), .second, .val (.long ((f6 mv hiv).toInt64)), .second, .val (.long ((f6 mv mv).toInt64)), .second] [(.long ((f6 lov mv).toInt64))])) _
    refine XS.lload X78.here hx rfl (hb hby at_186) rfl ?_
    show Steps p.tables e below (T78.setTop (mkF m 188 #[.val (.int av), .val (.int bv), .val (.long cv), .second, .val (.int lb), .val (.int sb), .val (.int xv), .val (.int yv), .val (.int lov), .val (.int hiv), .val (.long sp), .second, .val (.int mv), .val (.ref b56), .val (.ref b60), .val (.ref b64), .val (.ref b68), .val (.long ((f6 lov hiv).toInt64)), .second, .val (.long ((f6 lov mv).toInt64)), .second, .val (.long ((f6 mv hiv).toInt64)), .second, .val (.long ((f6 mv mv).toInt64)), .second] [(.long ((f6 mv hiv).toInt64)), (.long ((f6 lov mv).toInt64))])) _
    refine XS.ladd X78.here hx rfl (hb hby at_188) rfl ?_
    show Steps p.tables e below (T78.setTop (mkF m 189 #[.val (.int av), .val (.int bv), .val (.long cv), .second, .val (.int lb), .val (.int sb), .val (.int xv), .val (.int yv), .val (.int lov), .val (.int hiv), .val (.long sp), .second, .val (.int mv), .val (.ref b56), .val (.ref b60), .val (.ref b64), .val (.ref b68), .val (.long ((f6 lov hiv).toInt64)), .second, .val (.long ((f6 lov mv).toInt64)), .second, .val (.long ((f6 mv hiv).toInt64)), .second, .val (.long ((f6 mv mv).toInt64)), .second] [(.long (((f6 lov mv).toInt64) + ((f6 mv hiv).toInt64)))])) _
    refine XS.lload X78.here hx rfl (hb hby at_189) rfl ?_
    show Steps p.tables e below (T78.setTop (mkF m 191 #[.val (.int av), .val (.int bv), .val (.long cv), .second, .val (.int lb), .val (.int sb), .val (.int xv), .val (.int yv), .val (.int lov), .val (.int hiv), .val (.long sp), .second, .val (.int mv), .val (.ref b56), .val (.ref b60), .val (.ref b64), .val (.ref b68), .val (.long ((f6 lov hiv).toInt64)), .second, .val (.long ((f6 lov mv).toInt64)), .second, .val (.long ((f6 mv hiv).toInt64)), .second, .val (.long ((f6 mv mv).toInt64)), .second] [(.long ((f6 lov hiv).toInt64)), (.long (((f6 lov mv).toInt64) + ((f6 mv hiv).toInt64)))])) _
    refine XS.lconst X78.here hx rfl (hb hby at_191) ?_
    show Steps p.tables e below (T78.setTop (mkF m 192 #[.val (.int av), .val (.int bv), .val (.long cv), .second, .val (.int lb), .val (.int sb), .val (.int xv), .val (.int yv), .val (.int lov), .val (.int hiv), .val (.long sp), .second, .val (.int mv), .val (.ref b56), .val (.ref b60), .val (.ref b64), .val (.ref b68), .val (.long ((f6 lov hiv).toInt64)), .second, .val (.long ((f6 lov mv).toInt64)), .second, .val (.long ((f6 mv hiv).toInt64)), .second, .val (.long ((f6 mv mv).toInt64)), .second] [(.long (1 : Int64)), (.long ((f6 lov hiv).toInt64)), (.long (((f6 lov mv).toInt64) + ((f6 mv hiv).toInt64)))])) _
    refine XS.ladd X78.here hx rfl (hb hby at_192) rfl ?_
    show Steps p.tables e below (T78.setTop (mkF m 193 #[.val (.int av), .val (.int bv), .val (.long cv), .second, .val (.int lb), .val (.int sb), .val (.int xv), .val (.int yv), .val (.int lov), .val (.int hiv), .val (.long sp), .second, .val (.int mv), .val (.ref b56), .val (.ref b60), .val (.ref b64), .val (.ref b68), .val (.long ((f6 lov hiv).toInt64)), .second, .val (.long ((f6 lov mv).toInt64)), .second, .val (.long ((f6 mv hiv).toInt64)), .second, .val (.long ((f6 mv mv).toInt64)), .second] [(.long (((f6 lov hiv).toInt64) + (1 : Int64))), (.long (((f6 lov mv).toInt64) + ((f6 mv hiv).toInt64)))])) _
    refine XS.lcmp X78.here hx rfl (hb hby at_193) rfl ?_
    show Steps p.tables e below (T78.setTop (mkF m 194 #[.val (.int av), .val (.int bv), .val (.long cv), .second, .val (.int lb), .val (.int sb), .val (.int xv), .val (.int yv), .val (.int lov), .val (.int hiv), .val (.long sp), .second, .val (.int mv), .val (.ref b56), .val (.ref b60), .val (.ref b64), .val (.ref b68), .val (.long ((f6 lov hiv).toInt64)), .second, .val (.long ((f6 lov mv).toInt64)), .second, .val (.long ((f6 mv hiv).toInt64)), .second, .val (.long ((f6 mv mv).toInt64)), .second] [(.int (lcmpW (((f6 lov mv).toInt64) + ((f6 mv hiv).toInt64)) (((f6 lov hiv).toInt64) + (1 : Int64))))])) _
    refine XS.ifNo X78.here hx rfl (hb hby at_194) rfl ((if0 _ _).trans (teq ((lw_eq (((f6 lov mv).toInt64) + ((f6 mv hiv).toInt64)) (((f6 lov hiv).toInt64) + (1 : Int64))).mpr hl.2.2.2)).2) ?_
    show Steps p.tables e below (T78.setTop (mkF m 197 #[.val (.int av), .val (.int bv), .val (.long cv), .second, .val (.int lb), .val (.int sb), .val (.int xv), .val (.int yv), .val (.int lov), .val (.int hiv), .val (.long sp), .second, .val (.int mv), .val (.ref b56), .val (.ref b60), .val (.ref b64), .val (.ref b68), .val (.long ((f6 lov hiv).toInt64)), .second, .val (.long ((f6 lov mv).toInt64)), .second, .val (.long ((f6 mv hiv).toInt64)), .second, .val (.long ((f6 mv mv).toInt64)), .second] [])) _
    refine XS.iconst X78.here hx rfl (hb hby at_197) ?_
    show Steps p.tables e below (T78.setTop (mkF m 198 #[.val (.int av), .val (.int bv), .val (.long cv), .second, .val (.int lb), .val (.int sb), .val (.int xv), .val (.int yv), .val (.int lov), .val (.int hiv), .val (.long sp), .second, .val (.int mv), .val (.ref b56), .val (.ref b60), .val (.ref b64), .val (.ref b68), .val (.long ((f6 lov hiv).toInt64)), .second, .val (.long ((f6 lov mv).toInt64)), .second, .val (.long ((f6 mv hiv).toInt64)), .second, .val (.long ((f6 mv mv).toInt64)), .second] [(.int (1 : Int32))])) _
    refine XS.goto X78.here hx rfl (pc0 := 198) (pc' := 202) rfl (hb hby at_198) (by decide) (by decide) ?_
    show Steps p.tables e below (T78.setTop (mkF m 202 #[.val (.int av), .val (.int bv), .val (.long cv), .second, .val (.int lb), .val (.int sb), .val (.int xv), .val (.int yv), .val (.int lov), .val (.int hiv), .val (.long sp), .second, .val (.int mv), .val (.ref b56), .val (.ref b60), .val (.ref b64), .val (.ref b68), .val (.long ((f6 lov hiv).toInt64)), .second, .val (.long ((f6 lov mv).toInt64)), .second, .val (.long ((f6 mv hiv).toInt64)), .second, .val (.long ((f6 mv mv).toInt64)), .second] [(.int (1 : Int32))])) _
    exact retN X78 hx (t := .boolean) Bd.returns (by simp) (hb hby at_202) hr
  · show Q0 av bv cv lb sb h0 n0 _ T78.heap _
    exact ⟨rfl, N78⟩
set_option maxRecDepth 65536 in
set_option maxHeartbeats 40000000 in
theorem comes_1 {Post : Tables → Env → Array Value → State → Outcome → State → Prop} (hpost : ∀ tb e args s v u, (limb_1_1.after args s (.returned v) u = true ∧ limb_1_2.after args s (.returned v) u = true ∧ True) → FrameEnd s (.returned v) u (Jvm.fieldLocs frame_1_writes args s ++ Jvm.arrayLocs frame_1_arrays args s ++ Jvm.staticLocs frame_1_statics s) 16 128 → Post tb e args s (.returned v) u) :
    ArmFor flags0 classFile x code maxLocals ret World_1 tables_1 room_1 Calls_1 rest_1 Pre_1 Post := by
  intro l hfl _ _ p e ha hc hk s m args below hf hA hF happ hP
  obtain ⟨hcalls, hrest, hpre⟩ := hP
  obtain ⟨-, -, -, hnamed, -, -, -, hat⟩ := (Spec.applies_iff hf).mp happ
  obtain ⟨hg, hn⟩ := and_e (Cond.before_iff.mp (show (Jvm.Cond.and given_1 narrow_1).before args s = true from hpre))
  obtain ⟨ga0, gb0⟩ := and_e hg
  obtain ⟨ga1, gb1⟩ := and_e gb0
  obtain ⟨ga2, gb2⟩ := and_e gb1
  obtain ⟨ga3, gb3⟩ := and_e gb2
  obtain ⟨ga4, gb4⟩ := and_e gb3
  obtain ⟨w0, w1, w2, w3, w4, rfl⟩ : ∃ w0 w1 w2 w3 w4 : Value, args = #[w0, w1, w2, w3, w4] := by
    have hs : args.size = 5 := by simpa [Cond.value, given_1] using ga0
    obtain ⟨L⟩ := args
    match L, hs with
    | [w0, w1, w2, w3, w4], _ => exact ⟨w0, w1, w2, w3, w4, rfl⟩
  have hw := fun d (hd : d ∈ tables_1) => atoms_spec (ws := Jvm.Cond.code x code maxLocals ret :: tables_1) hat d (List.mem_cons_of_mem _ hd)
  have hfit : Fit s := fun {y c} hc i hi => by
    obtain ⟨ha, rfl⟩ := Array.getElem?_eq_some_iff.mp hc
    have q := List.all_eq_true.mp ((Array.all_eq_true_iff_forall_mem.mp hF) _ (Array.getElem_mem ha)) i (List.mem_range.mpr hi)
    simpa [Array.getElem?_eq_getElem hi] using q
  obtain ⟨i0, ei0⟩ := is_v ga1
  obtain rfl : w0 = (.int i0) := Option.some.inj ei0
  obtain ⟨i1, ei1⟩ := is_v ga2
  obtain rfl : w1 = (.int i1) := Option.some.inj ei1
  obtain ⟨i2, ei2⟩ := isL_v ga3
  obtain rfl : w2 = (.long i2) := Option.some.inj ei2
  obtain ⟨i3, ei3⟩ := is_v ga4
  obtain rfl : w3 = (.int i3) := Option.some.inj ei3
  obtain ⟨i4, ei4⟩ := is_v gb4
  obtain rfl : w4 = (.int i4) := Option.some.inj ei4
  obtain ⟨n, o, h1, h2, h3, _, L, rfl, ⟨rfl, N⟩, hq⟩ := rm0 l s _ hw tables_1 i0 i1 i2 i3 i4  s.heap s.heap.size (Nat.le_refl _)  p e ha hc hk s m _ below hf ((Spec.applies_iff_loose hf).mp happ).1 ⟨rfl, State.Warmed39.refl s, rfl⟩ trivial
  refine ⟨n, _, h1, h2, h3, hpost _ _ _ _ _ _ ⟨Cond.after_iff.mpr rfl, Cond.after_iff.mpr (eq_i res_at (Term.int_eval (1)) rfl), trivial⟩ ⟨hq.1, hq.2.1, (hq.2.2.sift fun y hy => Or.inr (N y hy)).mono (by decide) (by decide)⟩⟩
theorem main_1_1 : Claimed_1_1 := comes_1 fun _ _ _ _ _ _ h hF => ⟨h.1, hF⟩
theorem main_1_2 : Claimed_1_2 := comes_1 fun _ _ _ _ _ _ h hF => ⟨h.2.1, hF⟩
end Jvm.Pilot.@@N@@
namespace Jvm.Pilot.@@N@@
open Jvm Jvm.ClassFile Sem Op Lib Jvm.Free Jvm.Stand Jvm.Pilot.@@N@@.Jvm.D
/-! MADE BY PROGRAM (witnessworld.py) out of the Statement's table words and the real class files: 11 classes; the members and pool entries that the words name. The judged class is class 1, her method 1. -/
namespace start1
open Jvm.ClassFile
def u (s : String) : CpInfo := .utf8 (stringToUtf16 s)
/-- a pool by its gaps: so many unusable entries, then the entry; so many at the end -/
def gap : Nat → List CpInfo → List CpInfo
  | 0, r => r
  | n + 1, r => .unusable :: gap n r
def poolList (es : List (Nat × CpInfo)) (last : Nat) : List CpInfo := es.foldr (fun e r => gap e.1 (e.2 :: r)) (gap last [])
def pool (es : List (Nat × CpInfo)) (last : Nat) : Array CpInfo := ⟨poolList es last⟩
def fileOf (pool : Array CpInfo) (this : Nat) (attrs : Array Attribute := #[]) (ms : Array MethodInfo := #[]) (fl : Nat := 33) (sup : Nat := 0) (ifs : Array Nat := #[]) (fds : Array FieldInfo := #[]) : ClassFile where
  minorVersion := 0
  majorVersion := 65
  constantPool := pool
  accessFlags := fl
  thisClass := this
  superClass := sup
  interfaces := ifs
  fields := fds
  methods := ms
  attributes := attrs
def plain (name : String) (sup : Option ClassId) : Class where
  name := name
  kind := .ordinary
  loader := none
  accessFlags := 33
  super := sup
  interfaces := #[]
  cf := none
  fields := #[]
  methods := #[]
  instanceTypes := #[]
  staticTypes := #[]
  resolved := #[]
  callSites := []
  init := .initialized
  statics := none
  mirror := none

def pool0 : Array CpInfo := pool [(5, u "<init>"), (0, u "()V"), (1, .class_ 10), (1, u "java/lang/Object")] 113

def k0c0 : Code := { maxStack := 0, maxLocals := 1, code := object_method_1_code, exceptionTable := #[], attributes := #[] }
def k0m0 : Method := { name := "<init>", desc := "()V", sig := { parameters := [], returnType := none }, accessFlags := 1, code := some k0c0 }
/-- java/lang/Object -/
def k0 : Class := { plain "java/lang/Object" none with
  accessFlags := 33
  interfaces := #[]
  cf := some (fileOf pool0 8 #[] #[{ accessFlags := 1, nameIndex := 5, descriptorIndex := 6, attributes := #[] }] 33 0 #[] #[])
  fields := #[]
  methods := #[k0m0]
  instanceTypes := #[]
  staticTypes := #[]
  resolved := Array.replicate 124 none
  statics := none }

def pool1 : Array CpInfo := pool [(2, .class_ 4), (1, u "java/lang/Object"), (0, u "<init>"), (0, u "()V"), (0, .integer 2147483647), (0, .methodref 9 10), (0, .class_ 11), (0, .nameAndType 12 13), (0, u "java/lang/Math"), (0, u "min"), (0, u "(II)I"), (0, .methodref 9 15), (0, .nameAndType 16 13), (0, u "max"), (0, .long 9223372036854775807), (1, .class_ 20), (0, u "com/example/novation/novation/risk/Backtest"), (0, .methodref 19 22), (0, .nameAndType 5 23), (0, u "(IIII)V"), (0, .methodref 19 25), (0, .nameAndType 26 27), (0, u "days"), (0, u "()I"), (0, .class_ 29), (0, u "com/example/novation/novation/risk/BacktestDaysPinLaw"), (2, u "law"), (0, u "(IIJII)Z")] 3

def k1m0 : Method := { name := "<init>", desc := "()V", sig := { parameters := [], returnType := none }, accessFlags := 2, code := none }
def k1c1 : Code := { maxStack := 6, maxLocals := 25, code := code, exceptionTable := #[], attributes := #[] }
def k1m1 : Method := { name := "law", desc := "(IIJII)Z", sig := { parameters := [.int, .int, .long, .int, .int], returnType := some .boolean }, accessFlags := 9, code := some k1c1 }
/-- com/example/novation/novation/risk/BacktestDaysPinLaw -/
def k1 : Class := { plain "com/example/novation/novation/risk/BacktestDaysPinLaw" (some 0) with
  accessFlags := 49
  interfaces := #[]
  cf := some (fileOf pool1 28 #[] #[{ accessFlags := 2, nameIndex := 5, descriptorIndex := 6, attributes := #[] }, { accessFlags := 9, nameIndex := 32, descriptorIndex := 33, attributes := #[] }] 49 2 #[] #[])
  fields := #[]
  methods := #[k1m0, k1m1]
  instanceTypes := #[]
  staticTypes := #[]
  resolved := Array.replicate 37 none
  statics := none }

def pool2 : Array CpInfo := pool [(1, .class_ 2), (0, u "java/lang/Math"), (1, .class_ 6), (1, u "java/lang/Object"), (0, u "<init>"), (0, u "()V"), (89, .class_ 100), (1, u "java/lang/Math$RandomNumberGeneratorHolder"), (71, u "negativeZeroFloatBits"), (0, u "J"), (2, u "negativeZeroDoubleBits"), (21, u "max"), (2, u "min"), (43, u "$assertionsDisabled"), (0, u "Z"), (88, u "(II)I"), (2, u "twoToTheDoubleScaleDown"), (0, u "D"), (4, u "twoToTheDoubleScaleUp"), (9, u "E"), (3, u "PI"), (2, u "TAU"), (2, u "DEGREES_TO_RADIANS"), (0, u "RADIANS_TO_DEGREES")] 94

def k2m0 : Method := { name := "<init>", desc := "()V", sig := { parameters := [], returnType := none }, accessFlags := 2, code := none }
def k2c1 : Code := { maxStack := 2, maxLocals := 2, code := jdk_29_method_65_code, exceptionTable := #[], attributes := #[] }
def k2m1 : Method := { name := "max", desc := "(II)I", sig := { parameters := [.int, .int], returnType := some .int }, accessFlags := 9, code := some k2c1 }
def k2c2 : Code := { maxStack := 2, maxLocals := 2, code := jdk_29_method_69_code, exceptionTable := #[], attributes := #[] }
def k2m2 : Method := { name := "min", desc := "(II)I", sig := { parameters := [.int, .int], returnType := some .int }, accessFlags := 9, code := some k2c2 }
/-- java/lang/Math -/
def k2 : Class := { plain "java/lang/Math" (some 0) with
  accessFlags := 49
  interfaces := #[]
  cf := some (fileOf pool2 1 #[.nestMembers #[98]] #[{ accessFlags := 2, nameIndex := 7, descriptorIndex := 8, attributes := #[] }, { accessFlags := 9, nameIndex := 198, descriptorIndex := 335, attributes := #[] }, { accessFlags := 9, nameIndex := 201, descriptorIndex := 335, attributes := #[] }] 49 4 #[] #[{ accessFlags := 25, nameIndex := 354, descriptorIndex := 339, attributes := #[] }, { accessFlags := 25, nameIndex := 358, descriptorIndex := 339, attributes := #[] }, { accessFlags := 25, nameIndex := 361, descriptorIndex := 339, attributes := #[] }, { accessFlags := 26, nameIndex := 364, descriptorIndex := 339, attributes := #[] }, { accessFlags := 26, nameIndex := 365, descriptorIndex := 339, attributes := #[] }, { accessFlags := 26, nameIndex := 172, descriptorIndex := 173, attributes := #[] }, { accessFlags := 26, nameIndex := 176, descriptorIndex := 173, attributes := #[] }, { accessFlags := 8, nameIndex := 344, descriptorIndex := 339, attributes := #[] }, { accessFlags := 8, nameIndex := 338, descriptorIndex := 339, attributes := #[] }, { accessFlags := 4120, nameIndex := 245, descriptorIndex := 246, attributes := #[] }])
  fields := #[{ name := "E", type := .double, accessFlags := 25, slot := 0, constantValue := 0 }, { name := "PI", type := .double, accessFlags := 25, slot := 1, constantValue := 0 }, { name := "TAU", type := .double, accessFlags := 25, slot := 2, constantValue := 0 }, { name := "DEGREES_TO_RADIANS", type := .double, accessFlags := 26, slot := 3, constantValue := 0 }, { name := "RADIANS_TO_DEGREES", type := .double, accessFlags := 26, slot := 4, constantValue := 0 }, { name := "negativeZeroFloatBits", type := .long, accessFlags := 26, slot := 5, constantValue := 0 }, { name := "negativeZeroDoubleBits", type := .long, accessFlags := 26, slot := 6, constantValue := 0 }, { name := "twoToTheDoubleScaleUp", type := .double, accessFlags := 8, slot := 7, constantValue := 0 }, { name := "twoToTheDoubleScaleDown", type := .double, accessFlags := 8, slot := 8, constantValue := 0 }, { name := "$assertionsDisabled", type := .boolean, accessFlags := 4120, slot := 9, constantValue := 0 }]
  methods := #[k2m0, k2m1, k2m2]
  instanceTypes := #[]
  staticTypes := #[.double, .double, .double, .double, .double, .long, .long, .double, .double, .boolean]
  resolved := Array.replicate 460 none
  statics := none }

def pool3 : Array CpInfo := pool [(1, .methodref 2 3), (0, .class_ 4), (0, .nameAndType 5 6), (0, u "java/lang/Object"), (0, u "<init>"), (0, u "()V"), (0, .class_ 8), (0, u "java/lang/Record")] 13

def k3c0 : Code := { maxStack := 1, maxLocals := 1, code := jdk_30_method_1_code, exceptionTable := #[], attributes := #[] }
def k3m0 : Method := { name := "<init>", desc := "()V", sig := { parameters := [], returnType := none }, accessFlags := 4, code := some k3c0 }
/-- java/lang/Record -/
def k3 : Class := { plain "java/lang/Record" (some 0) with
  accessFlags := 1057
  interfaces := #[]
  cf := some (fileOf pool3 7 #[] #[{ accessFlags := 4, nameIndex := 5, descriptorIndex := 6, attributes := #[] }] 1057 2 #[] #[])
  fields := #[]
  methods := #[k3m0]
  instanceTypes := #[]
  staticTypes := #[]
  resolved := Array.replicate 22 none
  statics := none }

def pool4 : Array CpInfo := pool [(1, .methodref 2 3), (0, .class_ 4), (0, .nameAndType 5 6), (0, u "java/lang/Record"), (0, u "<init>"), (0, u "()V"), (0, .fieldref 8 9), (0, .class_ 10), (0, .nameAndType 11 12), (0, u "com/example/novation/novation/risk/Backtest"), (0, u "firstDay"), (0, u "I"), (0, .fieldref 8 14), (0, .nameAndType 15 12), (0, u "lastDay"), (0, .fieldref 8 17), (0, .nameAndType 18 12), (0, u "longBreaches"), (0, .fieldref 8 20), (0, .nameAndType 21 12), (0, u "shortBreaches"), (5, u "()I"), (68, u "(IIII)V"), (5, u "days")] 55

def k4c0 : Code := { maxStack := 2, maxLocals := 5, code := prog_75_method_1_code, exceptionTable := #[], attributes := #[] }
def k4m0 : Method := { name := "<init>", desc := "(IIII)V", sig := { parameters := [.int, .int, .int, .int], returnType := none }, accessFlags := 1, code := some k4c0 }
def k4c1 : Code := { maxStack := 2, maxLocals := 1, code := prog_75_method_4_code, exceptionTable := #[], attributes := #[] }
def k4m1 : Method := { name := "days", desc := "()I", sig := { parameters := [], returnType := some .int }, accessFlags := 1, code := some k4c1 }
/-- com/example/novation/novation/risk/Backtest -/
def k4 : Class := { plain "com/example/novation/novation/risk/Backtest" (some 3) with
  accessFlags := 49
  interfaces := #[]
  cf := some (fileOf pool4 8 #[] #[{ accessFlags := 1, nameIndex := 5, descriptorIndex := 96, attributes := #[] }, { accessFlags := 1, nameIndex := 102, descriptorIndex := 27, attributes := #[] }] 49 2 #[] #[{ accessFlags := 18, nameIndex := 11, descriptorIndex := 12, attributes := #[] }, { accessFlags := 18, nameIndex := 15, descriptorIndex := 12, attributes := #[] }, { accessFlags := 18, nameIndex := 18, descriptorIndex := 12, attributes := #[] }, { accessFlags := 18, nameIndex := 21, descriptorIndex := 12, attributes := #[] }])
  fields := #[{ name := "firstDay", type := .int, accessFlags := 18, slot := 0, constantValue := 0 }, { name := "lastDay", type := .int, accessFlags := 18, slot := 1, constantValue := 0 }, { name := "longBreaches", type := .int, accessFlags := 18, slot := 2, constantValue := 0 }, { name := "shortBreaches", type := .int, accessFlags := 18, slot := 3, constantValue := 0 }]
  methods := #[k4m0, k4m1]
  instanceTypes := #[.int, .int, .int, .int]
  staticTypes := #[]
  resolved := Array.replicate 158 none
  statics := none }

def pool5 : Array CpInfo := pool [(1, u "java/lang/Cloneable"), (0, .class_ 1), (0, u "java/lang/Object"), (0, .class_ 3)] 3

/-- java/lang/Cloneable -/
def k5 : Class := { plain "java/lang/Cloneable" (some 0) with
  accessFlags := 1537
  interfaces := #[]
  cf := some (fileOf pool5 2 #[] #[] 1537 4 #[] #[])
  fields := #[]
  methods := #[]
  instanceTypes := #[]
  staticTypes := #[]
  resolved := Array.replicate 8 none
  statics := none }

def pool6 : Array CpInfo := pool [(1, u "java/io/Serializable"), (0, .class_ 1), (0, u "java/lang/Object"), (0, .class_ 3)] 3

/-- java/io/Serializable -/
def k6 : Class := { plain "java/io/Serializable" (some 0) with
  accessFlags := 1537
  interfaces := #[]
  cf := some (fileOf pool6 2 #[] #[] 1537 4 #[] #[])
  fields := #[]
  methods := #[]
  instanceTypes := #[]
  staticTypes := #[]
  resolved := Array.replicate 8 none
  statics := none }

/-- the primitive byte -/
def k7 : Class := { plain "byte" none with kind := .primitive 'B', accessFlags := 0x411 }
/-- [B -/
def k8 : Class := { plain "[B" (some 0) with kind := .array 7 .byte, interfaces := #[5, 6], accessFlags := 1041 }

/-- the primitive int -/
def k9 : Class := { plain "int" none with kind := .primitive 'I', accessFlags := 0x411 }
/-- [I -/
def k10 : Class := { plain "[I" (some 0) with kind := .array 9 .int, interfaces := #[5, 6], accessFlags := 1041 }

def heap : Heap := #[]
def classes : Array Class := #[k0, k1, k2, k3, k4, k5, k6, k7, k8, k9, k10]
def interned : List (Array UInt16 × Addr) := []
def slotsUsed : Nat := 0
def theMethod : MethodId := ⟨1, 1⟩
def args0 : Array Value := #[.int 5, .int 9, .long 7, .int 0, .int 3]
def aboutOver (below : List Frame) : State where
  vm := { classes := classes, interned := interned.toArray }
  heap := heap
  slotsUsed := slotsUsed
  threads := #[{ frames := .invoking theMethod args0 :: below }]
def below0 : List Frame := [.native { method := ⟨0, 0⟩, args := #[] }]
def about1 : State := aboutOver below0
def p0 : Program := .bare "" "" ""
def e0 : Env := launch0.env 0 0 0
theorem w_frames : about1.frames = Frame.invoking theMethod args0 :: below0 := rfl
set_option maxRecDepth 65536 in
theorem w_args : argsFit about1.vm theMethod args0 = true := by decide +kernel
set_option maxRecDepth 65536 in
theorem w_heap : heapFits about1 = true := by decide +kernel
set_option maxRecDepth 65536 in
theorem w_runnable : about1.curStatus? = some .runnable := by decide +kernel
set_option maxRecDepth 65536 in
theorem w_alone : about1.alone = true := by decide +kernel
set_option maxRecDepth 65536 in
theorem w_named : about1.methodNamed? x = some theMethod := by decide +kernel
set_option maxRecDepth 65536 in
theorem w_hears : about1.hears theMethod below0 = true := by decide +kernel
set_option maxRecDepth 65536 in
theorem w_ripe : about1.ripe theMethod args0 below0 = true := by decide +kernel
theorem w_running : about1.status = .running := rfl
set_option maxRecDepth 65536 in
theorem w_room : about1.hasRoom e0.platform room_1 = true :=
  launch0.hasRoom_least _ room_1 (by decide +kernel) (by decide +kernel) (by decide +kernel) (by decide +kernel) (by decide +kernel) (by decide +kernel)
theorem allAtoms_all (ts : List Jvm.Cond) (a : Array Jvm.Value) (st : Jvm.State) : (allAtoms ts).before a st = ts.all (fun c => c.before a st) := by
  induction ts with
  | nil => rfl
  | cons c t ih =>
    show (Jvm.Cond.and c (allAtoms t)).before a st = _
    rw [Jvm.Cond.before_and, ih, List.all_cons]
def words1 : List Jvm.Cond := Jvm.Cond.code x code maxLocals ret :: tables_1
/-- a 'code' word, met by the world's own term for the bytes: nothing is compared byte by byte -/
theorem code_word {y : MethodName} {bytes : ByteArray} {mx : Nat} {rt : Option FieldType} {a : Array Value} {s : State} {m : MethodId} {meth : Method} {c : Code} (h1 : s.methodNamed? y = some m) (h2 : s.vm.method? m = some meth) (h3 : meth.code = some c) (h4 : c.code = bytes)
    (h5 : (c.maxLocals == mx && c.exceptionTable.isEmpty && decide (c.maxStack ≤ mostOperands) && decide (meth.sig.returnType = rt) && !meth.locks && decide (parseMethodDescriptor y.desc = some meth.sig)) = true) : (Jvm.Cond.code y bytes mx rt).before a s = true := by
  simp only [Bool.and_eq_true, beq_iff_eq, Bool.not_eq_true', decide_eq_true_eq] at h5
  obtain ⟨⟨⟨⟨⟨g1, g2⟩, g3⟩, g4⟩, g5⟩, g6⟩ := h5
  simp [Cond.before, Cond.holds, Cond.value, h1, h2, h3, h4, g1, g2, g3, g4, g5, g6]
def isCode : Jvm.Cond → Bool
  | .code _ _ _ _ => true
  | _ => false
theorem all_split {L : List Jvm.Cond} {P : Jvm.Cond → Bool} (h1 : L.all (fun c => isCode c || P c) = true) (h2 : ∀ c ∈ L.filter isCode, P c = true) : L.all P = true := by
  refine List.all_eq_true.mpr fun c hc => ?_
  have h := List.all_eq_true.mp h1 c hc
  rcases Bool.eq_false_or_eq_true (isCode c) with hi | hi
  · exact h2 c (List.mem_filter.mpr ⟨hc, hi⟩)
  · simpa [hi] using h
set_option maxRecDepth 65536 in
theorem w_c0 : (Jvm.Cond.code x code maxLocals ret).before args0 about1 = true := code_word (m := ⟨1, 1⟩) (meth := k1m1) (c := k1c1) (by decide +kernel) rfl rfl rfl (by decide +kernel)
set_option maxRecDepth 65536 in
theorem w_c1 : (Jvm.Cond.code ({ cls := "java/lang/Math", name := "min", desc := "(II)I" } : Jvm.MethodName) jdk_29_method_69_code (2 : Nat) (Option.some Jvm.ClassFile.FieldType.int)).before args0 about1 = true := code_word (m := ⟨2, 2⟩) (meth := k2m2) (c := k2c2) (by decide +kernel) rfl rfl rfl (by decide +kernel)
set_option maxRecDepth 65536 in
theorem w_c2 : (Jvm.Cond.code ({ cls := "java/lang/Math", name := "max", desc := "(II)I" } : Jvm.MethodName) jdk_29_method_65_code (2 : Nat) (Option.some Jvm.ClassFile.FieldType.int)).before args0 about1 = true := code_word (m := ⟨2, 1⟩) (meth := k2m1) (c := k2c1) (by decide +kernel) rfl rfl rfl (by decide +kernel)
set_option maxRecDepth 65536 in
theorem w_c3 : (Jvm.Cond.code ({ cls := "com/example/novation/novation/risk/Backtest", name := "<init>", desc := "(IIII)V" } : Jvm.MethodName) prog_75_method_1_code (5 : Nat) (Option.none : Option Jvm.ClassFile.FieldType)).before args0 about1 = true := code_word (m := ⟨4, 0⟩) (meth := k4m0) (c := k4c0) (by decide +kernel) rfl rfl rfl (by decide +kernel)
set_option maxRecDepth 65536 in
theorem w_c4 : (Jvm.Cond.code ({ cls := "java/lang/Record", name := "<init>", desc := "()V" } : Jvm.MethodName) jdk_30_method_1_code (1 : Nat) (Option.none : Option Jvm.ClassFile.FieldType)).before args0 about1 = true := code_word (m := ⟨3, 0⟩) (meth := k3m0) (c := k3c0) (by decide +kernel) rfl rfl rfl (by decide +kernel)
set_option maxRecDepth 65536 in
theorem w_c5 : (Jvm.Cond.code ({ cls := "java/lang/Object", name := "<init>", desc := "()V" } : Jvm.MethodName) object_method_1_code (1 : Nat) (Option.none : Option Jvm.ClassFile.FieldType)).before args0 about1 = true := code_word (m := ⟨0, 0⟩) (meth := k0m0) (c := k0c0) (by decide +kernel) rfl rfl rfl (by decide +kernel)
set_option maxRecDepth 65536 in
theorem w_c6 : (Jvm.Cond.code ({ cls := "com/example/novation/novation/risk/Backtest", name := "days", desc := "()I" } : Jvm.MethodName) prog_75_method_4_code (1 : Nat) (Option.some Jvm.ClassFile.FieldType.int)).before args0 about1 = true := code_word (m := ⟨4, 1⟩) (meth := k4m1) (c := k4c1) (by decide +kernel) rfl rfl rfl (by decide +kernel)
def codes1 : List Jvm.Cond := [Jvm.Cond.code x code maxLocals ret, Jvm.Cond.code ({ cls := "java/lang/Math", name := "min", desc := "(II)I" } : Jvm.MethodName) jdk_29_method_69_code (2 : Nat) (Option.some Jvm.ClassFile.FieldType.int), Jvm.Cond.code ({ cls := "java/lang/Math", name := "max", desc := "(II)I" } : Jvm.MethodName) jdk_29_method_65_code (2 : Nat) (Option.some Jvm.ClassFile.FieldType.int), Jvm.Cond.code ({ cls := "com/example/novation/novation/risk/Backtest", name := "<init>", desc := "(IIII)V" } : Jvm.MethodName) prog_75_method_1_code (5 : Nat) (Option.none : Option Jvm.ClassFile.FieldType), Jvm.Cond.code ({ cls := "java/lang/Record", name := "<init>", desc := "()V" } : Jvm.MethodName) jdk_30_method_1_code (1 : Nat) (Option.none : Option Jvm.ClassFile.FieldType), Jvm.Cond.code ({ cls := "java/lang/Object", name := "<init>", desc := "()V" } : Jvm.MethodName) object_method_1_code (1 : Nat) (Option.none : Option Jvm.ClassFile.FieldType), Jvm.Cond.code ({ cls := "com/example/novation/novation/risk/Backtest", name := "days", desc := "()I" } : Jvm.MethodName) prog_75_method_4_code (1 : Nat) (Option.some Jvm.ClassFile.FieldType.int)]
set_option maxRecDepth 65536 in
theorem codes_eq : words1.filter isCode = codes1 := rfl
theorem w_codes : ∀ c ∈ words1.filter isCode, c.before args0 about1 = true := by
  rw [codes_eq]
  intro c hc
  simp only [codes1, List.mem_cons, List.not_mem_nil, or_false] at hc
  rcases hc with rfl | rfl | rfl | rfl | rfl | rfl | rfl
  · exact w_c0
  · exact w_c1
  · exact w_c2
  · exact w_c3
  · exact w_c4
  · exact w_c5
  · exact w_c6
set_option maxRecDepth 65536 in
theorem w_t1 : (words1.take 24).all (fun c => isCode c || c.before args0 about1) = true := by decide +kernel
set_option maxRecDepth 65536 in
theorem w_t2 : (words1.drop 24).all (fun c => isCode c || c.before args0 about1) = true := by decide +kernel
theorem w_tables : (allAtoms (Jvm.Cond.code x code maxLocals ret :: tables_1)).before args0 about1 = true := by
  rw [allAtoms_all]
  show words1.all (fun c => c.before args0 about1) = true
  refine all_split ?_ w_codes
  rw [← List.take_append_drop 24 words1, List.all_append, w_t1, w_t2]
  rfl
set_option maxRecDepth 65536 in
theorem w_case : (Jvm.Cond.and given_1 narrow_1).before args0 about1 = true := by decide +kernel
theorem w_applies : (headSpec (Jvm.Cond.code x code maxLocals ret :: tables_1) room_1).applies x e0.platform about1 = true :=
  (Spec.applies_iff w_frames).mpr ⟨w_running, w_runnable, w_alone, w_named, w_hears, w_ripe, w_room, w_tables⟩
theorem atStart : AtStart classFile x code maxLocals ret World_1 tables_1 room_1 Calls_1 rest_1 Pre_1 launch0 p0 e0 about1 theMethod args0 below0 :=
  ⟨lists_1, trivial, launch0.admits_env _ _ _, launch0.least_env, fairChoices_fair.cas, fairChoices_fair.clock, w_frames, w_args, w_heap, w_applies, trivial, trivial, w_case⟩
end start1
theorem witness_1 : WitnessClaimed_1 := ⟨start1.p0, start1.e0, start1.about1, start1.theMethod, start1.args0, start1.below0, start1.atStart⟩
end Jvm.Pilot.@@N@@

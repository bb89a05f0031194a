import JvmDerived
import JvmDerived.Pilot.@@N@@Statement
import JvmDerived.Pilot.@@N@@Code
set_option linter.unusedVariables false
set_option linter.unusedSimpArgs false
@@BLOCK:NumsL.lean.txt@@
namespace Jvm.RoadKit
open Sem ClassFile Op Lib Jvm.Stand Jvm.Free Jvm.LawKit
section New
variable {p : Program} {l : Launch} {e : Env} {R : Room} {s : State} {m : MethodId} {args : Array Value} {below : List Frame} {meth : Method} {c : Code} {T : State} {locs : List Loc} {cells slots : Nat}
theorem retI (X : Stand p l e R s m args below meth c T locs cells slots) (hx : p.tables.exec = Jvm.exec) {pc : Nat} {Ls : Array Slot} {z : Int32} {rest : List Value} (hret : meth.sig.returnType = some .int) (hd : decode c.code pc = .ok (.ireturn, 1)) {fs : List Frame}
    (hl : ∀ (f : JFrame) (acts : List Action), f.method = m → f.locked = none → f.entered = [] → (doReturn e (T.setTop f) acts (some (.int z))).1 = T.setFrames fs) : Steps p.tables e below (T.setTop (mkF m pc Ls (.int z :: rest))) (T.setFrames fs) := by
  have hm' : T.vm.method? m = some meth := X.method'
  have hn : narrow .int (.int z) = .int z := rfl
  show Steps p.tables e below (T.setTop { method := m, pc := pc, locals := Ls, stack := _ :: rest, locked := none }) _
  jvm_step X.here [X.here.top, hx, hd, hm', hret, hn]
  first | (intro acts; rw [hl _ acts rfl rfl rfl]) | rw [hl _ _ rfl rfl rfl]
  exact Steps.refl _
end New
end Jvm.RoadKit
namespace Jvm.Pilot.@@N@@
open Jvm Jvm.ClassFile Sem Op Lib Jvm.Free Jvm.Stand Jvm.LawKit Jvm.RoadKit Bundle Jvm.Pilot.@@N@@.Jvm.D
theorem d4_0 : decode jdk_29_method_70_code 0 = .ok (.lload_n 0, 1) := by decide +kernel
theorem d4_1 : decode jdk_29_method_70_code 1 = .ok (.lload_n 2, 1) := by decide +kernel
theorem d4_2 : decode jdk_29_method_70_code 2 = .ok (.lcmp, 1) := by decide +kernel
theorem d4_3 : decode jdk_29_method_70_code 3 = .ok (.ifCond .gt 7, 3) := by decide +kernel
theorem d4_6 : decode jdk_29_method_70_code 6 = .ok (.lload_n 0, 1) := by decide +kernel
theorem d4_7 : decode jdk_29_method_70_code 7 = .ok (.goto 4, 3) := by decide +kernel
theorem d4_10 : decode jdk_29_method_70_code 10 = .ok (.lload_n 2, 1) := by decide +kernel
theorem d4_11 : decode jdk_29_method_70_code 11 = .ok (.lreturn, 1) := by decide +kernel
theorem pd_0 : parseMethodDescriptor "(JJ)Z" = some ⟨[.long, .long], some .boolean⟩ := by decide +kernel
theorem pd_1 : parseMethodDescriptor "()Lcom/example/tidebook/tidebook/book/Side;" = some ⟨[], some (.object "com/example/tidebook/tidebook/book/Side")⟩ := by decide +kernel
theorem pd_2 : parseMethodDescriptor "(JJ)J" = some ⟨[.long, .long], some .long⟩ := by decide +kernel
theorem ef_4 (m : MethodId) (x0 : Int64) (x1 : Int64) : entryFrame m #[(.long x0), (.long x1)] 4 = mkF m 0 #[.val (.long x0), .second, .val (.long x1), .second] [] := by first | (simp [entryFrame, mkF, argsToLocals, Value.category]; done) | rfl
def own_min (q0 : Int64) (q1 : Int64) : Int64 := if q1 < q0 then q1 else q0
def Q4 (q0 : Int64) (q1 : Int64) (h0 : Heap) (n0 : Nat) (v : Option Value) (h : Heap) (L : List Loc) : Prop := v = some (.long (own_min q0 q1)) ∧ Fr n0 L ∧ h = h0
set_option maxRecDepth 65536 in
set_option maxHeartbeats 40000000 in
theorem rm4 (l : Launch) (Z : State) (aZ : Array Value) (hw : ∀ d ∈ tables_1, d.before aZ Z = true) (ws : List Jvm.Cond) (q0 : Int64) (q1 : Int64)  (h0 : Heap) (n0 : Nat) (Z0 : n0 ≤ h0.size)  :
    MetFree l (⟨"java/lang/Math", "min", "(JJ)J"⟩ : MethodName) (head1 (Jvm.Cond.code (⟨"java/lang/Math", "min", "(JJ)J"⟩ : MethodName) jdk_29_method_70_code 4 (some .long) :: ws) ({ frames := 0, cells := 0, slots := 0, locals := 0 } : Room)) (fun a U => a = #[(.long q0), (.long q1)] ∧ Z.Warmed39 U.vm ∧ U.heap = h0) (fun _ _ _ _ _ => True) (fun _ U o U' => ∃ v L, o = .returned v ∧ Q4 q0 q1 h0 n0 v U'.heap L ∧ FrameEnd U o U' L ({ frames := 0, cells := 0, slots := 0, locals := 0 } : Room).cells ({ frames := 0, cells := 0, slots := 0, locals := 0 } : Room).slots) := by
  refine MetFree.of_bodySF (Jvm.Free.JP.mathPlain rfl (by decide +kernel)) hisR ?_
  intro p e s m args below meth c s₁ Bd hml0 hP hK
  obtain ⟨rfl, hZ, hh⟩ := hP
  have hx := Bd.exec
  have hby := Bd.bytes
  have hml : c.maxLocals = 4 := hml0
  have hown : s.vm.findClass "java/lang/Math" = some m.cls := findClass_of_methodNamed Bd.named
  have hnm := (name_of_methodNamed Bd.named Bd.method).1
  have X0 : Stand p l e ({ frames := 0, cells := 0, slots := 0, locals := 0 } : Room) s m #[(.long q0), (.long q1)] below meth c s₁ [] 0 0 := Stand.of_body Bd
  have e0 : s₁.heap = h0 := by rw [← hh, Bd.state]; rfl
  have N0 := Fr.nil n0
  have pre0 : ∀ t, Steps p.tables e below (s₁.setTop (mkF m 0 #[.val (.long q0), .second, .val (.long q1), .second] [])) t → Steps p.tables e below (s₁.setTop (entryFrame m #[(.long q0), (.long q1)] 4)) t := fun t k => castTop (ef_4 m q0 q1) k
  obtain ⟨fs, hr, hrun, hended, hW, hsame⟩ := X0.leave (v := some (.long (own_min q0 q1))) (fun h => by rw [Bd.returns] at h; cases h)
  refine ⟨_, _, pre0 _ ?_, hrun, hended, _, _, rfl, ?_, ⟨_, rfl⟩, hW, hsame.mono (by decide) (by decide)⟩
  · show Steps p.tables e below (s₁.setTop (mkF m 0 #[.val (.long q0), .second, .val (.long q1), .second] [])) _
    refine XS.lloadN X0.here hx rfl (hb hby d4_0) rfl ?_
    show Steps p.tables e below (s₁.setTop (mkF m 1 #[.val (.long q0), .second, .val (.long q1), .second] [(.long q0)])) _
    refine XS.lloadN X0.here hx rfl (hb hby d4_1) rfl ?_
    show Steps p.tables e below (s₁.setTop (mkF m 2 #[.val (.long q0), .second, .val (.long q1), .second] [(.long q1), (.long q0)])) _
    refine XS.lcmp X0.here hx rfl (hb hby d4_2) rfl ?_
    show Steps p.tables e below (s₁.setTop (mkF m 3 #[.val (.long q0), .second, .val (.long q1), .second] [(.int (lcmpW q0 q1))])) _
    by_cases c2 : q1 < q0
    · refine XS.ifYes X0.here hx rfl (pc0 := 3) (pc' := 10) rfl (hb hby d4_3) rfl ((if0 _ _).trans (tlt ((lw_gt q0 q1).mpr c2)).2.2.1) (by decide) (by decide) ?_
      show Steps p.tables e below (s₁.setTop (mkF m 10 #[.val (.long q0), .second, .val (.long q1), .second] [])) _
      refine XS.lloadN X0.here hx rfl (hb hby d4_10) rfl ?_
      show Steps p.tables e below (s₁.setTop (mkF m 11 #[.val (.long q0), .second, .val (.long q1), .second] [(.long q1)])) _
      have hv : own_min q0 q1 = q1 := by unfold own_min; rw [if_pos c2]
      rw [hv] at hr
      exact Jvm.Stand.lreturnOut X0 hx Bd.returns (hb hby d4_11) hr
    · refine XS.ifNo X0.here hx rfl (hb hby d4_3) rfl ((if0 _ _).trans (flt (fun q => c2 ((lw_gt q0 q1).mp q))).2.2.1) ?_
      show Steps p.tables e below (s₁.setTop (mkF m 6 #[.val (.long q0), .second, .val (.long q1), .second] [])) _
      refine XS.lloadN X0.here hx rfl (hb hby d4_6) rfl ?_
      show Steps p.tables e below (s₁.setTop (mkF m 7 #[.val (.long q0), .second, .val (.long q1), .second] [(.long q0)])) _
      refine XS.goto X0.here hx rfl (pc0 := 7) (pc' := 11) rfl (hb hby d4_7) (by decide) (by decide) ?_
      show Steps p.tables e below (s₁.setTop (mkF m 11 #[.val (.long q0), .second, .val (.long q1), .second] [(.long q0)])) _
      have hv : own_min q0 q1 = q0 := by unfold own_min; rw [if_neg c2]
      rw [hv] at hr
      exact Jvm.Stand.lreturnOut X0 hx Bd.returns (hb hby d4_11) hr
  · show Q4 q0 q1 h0 n0 _ s₁.heap _
    rw [e0]
    exact ⟨rfl, N0, rfl⟩
theorem d5_0 : decode jdk_29_method_66_code 0 = .ok (.lload_n 0, 1) := by decide +kernel
theorem d5_1 : decode jdk_29_method_66_code 1 = .ok (.lload_n 2, 1) := by decide +kernel
theorem d5_2 : decode jdk_29_method_66_code 2 = .ok (.lcmp, 1) := by decide +kernel
theorem d5_3 : decode jdk_29_method_66_code 3 = .ok (.ifCond .lt 7, 3) := by decide +kernel
theorem d5_6 : decode jdk_29_method_66_code 6 = .ok (.lload_n 0, 1) := by decide +kernel
theorem d5_7 : decode jdk_29_method_66_code 7 = .ok (.goto 4, 3) := by decide +kernel
theorem d5_10 : decode jdk_29_method_66_code 10 = .ok (.lload_n 2, 1) := by decide +kernel
theorem d5_11 : decode jdk_29_method_66_code 11 = .ok (.lreturn, 1) := by decide +kernel
theorem ef_5 (m : MethodId) (x0 : Int64) (x1 : Int64) : entryFrame m #[(.long x0), (.long x1)] 4 = mkF m 0 #[.val (.long x0), .second, .val (.long x1), .second] [] := by first | (simp [entryFrame, mkF, argsToLocals, Value.category]; done) | rfl
def own_max (q0 : Int64) (q1 : Int64) : Int64 := if q0 < q1 then q1 else q0
def Q5 (q0 : Int64) (q1 : Int64) (h0 : Heap) (n0 : Nat) (v : Option Value) (h : Heap) (L : List Loc) : Prop := v = some (.long (own_max q0 q1)) ∧ Fr n0 L ∧ h = h0
set_option maxRecDepth 65536 in
set_option maxHeartbeats 40000000 in
theorem rm5 (l : Launch) (Z : State) (aZ : Array Value) (hw : ∀ d ∈ tables_1, d.before aZ Z = true) (ws : List Jvm.Cond) (q0 : Int64) (q1 : Int64)  (h0 : Heap) (n0 : Nat) (Z0 : n0 ≤ h0.size)  :
    MetFree l (⟨"java/lang/Math", "max", "(JJ)J"⟩ : MethodName) (head1 (Jvm.Cond.code (⟨"java/lang/Math", "max", "(JJ)J"⟩ : MethodName) jdk_29_method_66_code 4 (some .long) :: ws) ({ frames := 0, cells := 0, slots := 0, locals := 0 } : Room)) (fun a U => a = #[(.long q0), (.long q1)] ∧ Z.Warmed39 U.vm ∧ U.heap = h0) (fun _ _ _ _ _ => True) (fun _ U o U' => ∃ v L, o = .returned v ∧ Q5 q0 q1 h0 n0 v U'.heap L ∧ FrameEnd U o U' L ({ frames := 0, cells := 0, slots := 0, locals := 0 } : Room).cells ({ frames := 0, cells := 0, slots := 0, locals := 0 } : Room).slots) := by
  refine MetFree.of_bodySF (Jvm.Free.JP.mathPlain rfl (by decide +kernel)) hisR ?_
  intro p e s m args below meth c s₁ Bd hml0 hP hK
  obtain ⟨rfl, hZ, hh⟩ := hP
  have hx := Bd.exec
  have hby := Bd.bytes
  have hml : c.maxLocals = 4 := hml0
  have hown : s.vm.findClass "java/lang/Math" = some m.cls := findClass_of_methodNamed Bd.named
  have hnm := (name_of_methodNamed Bd.named Bd.method).1
  have X0 : Stand p l e ({ frames := 0, cells := 0, slots := 0, locals := 0 } : Room) s m #[(.long q0), (.long q1)] below meth c s₁ [] 0 0 := Stand.of_body Bd
  have e0 : s₁.heap = h0 := by rw [← hh, Bd.state]; rfl
  have N0 := Fr.nil n0
  have pre0 : ∀ t, Steps p.tables e below (s₁.setTop (mkF m 0 #[.val (.long q0), .second, .val (.long q1), .second] [])) t → Steps p.tables e below (s₁.setTop (entryFrame m #[(.long q0), (.long q1)] 4)) t := fun t k => castTop (ef_5 m q0 q1) k
  obtain ⟨fs, hr, hrun, hended, hW, hsame⟩ := X0.leave (v := some (.long (own_max q0 q1))) (fun h => by rw [Bd.returns] at h; cases h)
  refine ⟨_, _, pre0 _ ?_, hrun, hended, _, _, rfl, ?_, ⟨_, rfl⟩, hW, hsame.mono (by decide) (by decide)⟩
  · show Steps p.tables e below (s₁.setTop (mkF m 0 #[.val (.long q0), .second, .val (.long q1), .second] [])) _
    refine XS.lloadN X0.here hx rfl (hb hby d5_0) rfl ?_
    show Steps p.tables e below (s₁.setTop (mkF m 1 #[.val (.long q0), .second, .val (.long q1), .second] [(.long q0)])) _
    refine XS.lloadN X0.here hx rfl (hb hby d5_1) rfl ?_
    show Steps p.tables e below (s₁.setTop (mkF m 2 #[.val (.long q0), .second, .val (.long q1), .second] [(.long q1), (.long q0)])) _
    refine XS.lcmp X0.here hx rfl (hb hby d5_2) rfl ?_
    show Steps p.tables e below (s₁.setTop (mkF m 3 #[.val (.long q0), .second, .val (.long q1), .second] [(.int (lcmpW q0 q1))])) _
    by_cases c4 : q0 < q1
    · refine XS.ifYes X0.here hx rfl (pc0 := 3) (pc' := 10) rfl (hb hby d5_3) rfl ((if0 _ _).trans (tlt ((lw_lt q0 q1).mpr c4)).1) (by decide) (by decide) ?_
      show Steps p.tables e below (s₁.setTop (mkF m 10 #[.val (.long q0), .second, .val (.long q1), .second] [])) _
      refine XS.lloadN X0.here hx rfl (hb hby d5_10) rfl ?_
      show Steps p.tables e below (s₁.setTop (mkF m 11 #[.val (.long q0), .second, .val (.long q1), .second] [(.long q1)])) _
      have hv : own_max q0 q1 = q1 := by unfold own_max; rw [if_pos c4]
      rw [hv] at hr
      exact Jvm.Stand.lreturnOut X0 hx Bd.returns (hb hby d5_11) hr
    · refine XS.ifNo X0.here hx rfl (hb hby d5_3) rfl ((if0 _ _).trans (flt (fun q => c4 ((lw_lt q0 q1).mp q))).1) ?_
      show Steps p.tables e below (s₁.setTop (mkF m 6 #[.val (.long q0), .second, .val (.long q1), .second] [])) _
      refine XS.lloadN X0.here hx rfl (hb hby d5_6) rfl ?_
      show Steps p.tables e below (s₁.setTop (mkF m 7 #[.val (.long q0), .second, .val (.long q1), .second] [(.long q0)])) _
      refine XS.goto X0.here hx rfl (pc0 := 7) (pc' := 11) rfl (hb hby d5_7) (by decide) (by decide) ?_
      show Steps p.tables e below (s₁.setTop (mkF m 11 #[.val (.long q0), .second, .val (.long q1), .second] [(.long q0)])) _
      have hv : own_max q0 q1 = q0 := by unfold own_max; rw [if_neg c4]
      rw [hv] at hr
      exact Jvm.Stand.lreturnOut X0 hx Bd.returns (hb hby d5_11) hr
  · show Q5 q0 q1 h0 n0 _ s₁.heap _
    rw [e0]
    exact ⟨rfl, N0, rfl⟩
theorem d1_0 : decode prog_12_method_9_code 0 = .ok (.aload_n 0, 1) := by decide +kernel
theorem d1_1 : decode prog_12_method_9_code 1 = .ok (.getstatic 3, 3) := by decide +kernel
theorem d1_4 : decode prog_12_method_9_code 4 = .ok (.if_acmp .ne 17, 3) := by decide +kernel
theorem d1_7 : decode prog_12_method_9_code 7 = .ok (.lload_n 1, 1) := by decide +kernel
theorem d1_8 : decode prog_12_method_9_code 8 = .ok (.lload_n 3, 1) := by decide +kernel
theorem d1_9 : decode prog_12_method_9_code 9 = .ok (.lcmp, 1) := by decide +kernel
theorem d1_10 : decode prog_12_method_9_code 10 = .ok (.ifCond .le 7, 3) := by decide +kernel
theorem d1_13 : decode prog_12_method_9_code 13 = .ok (.iconst 1, 1) := by decide +kernel
theorem d1_14 : decode prog_12_method_9_code 14 = .ok (.goto 18, 3) := by decide +kernel
theorem d1_17 : decode prog_12_method_9_code 17 = .ok (.iconst 0, 1) := by decide +kernel
theorem d1_18 : decode prog_12_method_9_code 18 = .ok (.goto 14, 3) := by decide +kernel
theorem d1_21 : decode prog_12_method_9_code 21 = .ok (.lload_n 1, 1) := by decide +kernel
theorem d1_22 : decode prog_12_method_9_code 22 = .ok (.lload_n 3, 1) := by decide +kernel
theorem d1_23 : decode prog_12_method_9_code 23 = .ok (.lcmp, 1) := by decide +kernel
theorem d1_24 : decode prog_12_method_9_code 24 = .ok (.ifCond .ge 7, 3) := by decide +kernel
theorem d1_27 : decode prog_12_method_9_code 27 = .ok (.iconst 1, 1) := by decide +kernel
theorem d1_28 : decode prog_12_method_9_code 28 = .ok (.goto 4, 3) := by decide +kernel
theorem d1_31 : decode prog_12_method_9_code 31 = .ok (.iconst 0, 1) := by decide +kernel
theorem d1_32 : decode prog_12_method_9_code 32 = .ok (.ireturn, 1) := by decide +kernel
theorem pn_1 : plainName "com/example/tidebook/tidebook/book/Side" = true := by first | (simp [plainName, overriddenIn]; done) | decide +kernel
theorem ef_1 (m : MethodId) (x0 : Addr) (x1 : Int64) (x2 : Int64) : entryFrame m #[(.ref x0), (.long x1), (.long x2)] 5 = mkF m 0 #[.val (.ref x0), .val (.long x1), .second, .val (.long x2), .second] [] := by first | (simp [entryFrame, mkF, argsToLocals, Value.category]; done) | rfl
def own_ma_b (q1 : Int64) (q2 : Int64) : Int32 := if q2 < q1 then (1 : Int32) else (0 : Int32)
def Q1_b (q1 : Int64) (q2 : Int64) (h0 : Heap) (n0 : Nat) (v : Option Value) (h : Heap) (L : List Loc) : Prop := v = some (.int (own_ma_b q1 q2)) ∧ Fr n0 L ∧ h = h0
set_option maxRecDepth 65536 in
set_option maxHeartbeats 40000000 in
theorem rm1_b (l : Launch) (Z : State) (aZ : Array Value) (hw : ∀ d ∈ tables_1, d.before aZ Z = true) (ws : List Jvm.Cond) (wB : Addr) (q1 : Int64) (q2 : Int64) (wS : Addr) (h0 : Heap) (n0 : Nat) (Z0 : n0 ≤ h0.size) (S_B : Sta Z h0 "com/example/tidebook/tidebook/book/Side" "BUY" "Lcom/example/tidebook/tidebook/book/Side;" (.ref wB)) (S_S : Sta Z h0 "com/example/tidebook/tidebook/book/Side" "SELL" "Lcom/example/tidebook/tidebook/book/Side;" (.ref wS)) (hne : wS ≠ wB) :
    MetFree l (⟨"com/example/tidebook/tidebook/book/Side", "isMoreAggressive", "(JJ)Z"⟩ : MethodName) (head1 (Jvm.Cond.code (⟨"com/example/tidebook/tidebook/book/Side", "isMoreAggressive", "(JJ)Z"⟩ : MethodName) prog_12_method_9_code 5 (some .boolean) :: ws) ({ frames := 0, cells := 0, slots := 0, locals := 0 } : Room)) (fun a U => a = #[(.ref wB), (.long q1), (.long q2)] ∧ Z.Warmed39 U.vm ∧ U.heap = h0) (fun _ _ _ _ _ => True) (fun _ U o U' => ∃ v L, o = .returned v ∧ Q1_b q1 q2 h0 n0 v U'.heap L ∧ FrameEnd U o U' L ({ frames := 0, cells := 0, slots := 0, locals := 0 } : Room).cells ({ frames := 0, cells := 0, slots := 0, locals := 0 } : Room).slots) := by
  refine MetFree.of_bodySF (plainFor_of_name pn_1) hisR ?_
  intro p e s m args below meth c s₁ Bd hml0 hP hK
  obtain ⟨rfl, hZ, hh⟩ := hP
  have hx := Bd.exec
  have hby := Bd.bytes
  have hml : c.maxLocals = 5 := hml0
  have hown : s.vm.findClass "com/example/tidebook/tidebook/book/Side" = some m.cls := findClass_of_methodNamed Bd.named
  have hnm := (name_of_methodNamed Bd.named Bd.method).1
  have X0 : Stand p l e ({ frames := 0, cells := 0, slots := 0, locals := 0 } : Room) s m #[(.ref wB), (.long q1), (.long q2)] below meth c s₁ [] 0 0 := Stand.of_body Bd
  have e0 : s₁.heap = h0 := by rw [← hh, Bd.state]; rfl
  have N0 := Fr.nil n0
  have pre0 : ∀ t, Steps p.tables e below (s₁.setTop (mkF m 0 #[.val (.ref wB), .val (.long q1), .second, .val (.long q2), .second] [])) t → Steps p.tables e below (s₁.setTop (entryFrame m #[(.ref wB), (.long q1), (.long q2)] 5)) t := fun t k => castTop (ef_1 m wB q1 q2) k
  have pre15 : ∀ t, Steps p.tables e below (s₁.setTop (mkF m 1 #[.val (.ref wB), .val (.long q1), .second, .val (.long q2), .second] [(.ref wB)])) t → Steps p.tables e below (s₁.setTop (entryFrame m #[(.ref wB), (.long q1), (.long q2)] 5)) t := fun t k => by
    refine pre0 _ ?_
    show Steps p.tables e below (s₁.setTop (mkF m 0 #[.val (.ref wB), .val (.long q1), .second, .val (.long q2), .second] [])) _
    refine XS.aloadN X0.here hx rfl (hb hby d1_0) rfl rfl ?_
    show Steps p.tables e below (s₁.setTop (mkF m 1 #[.val (.ref wB), .val (.long q1), .second, .val (.long q2), .second] [(.ref wB)])) _
    exact k
  obtain ⟨T16, X16, e16, st16⟩ := getS2 X0 hx hZ hown (host := "") (Or.inl (hw _ (List.mem_of_getElem? (i := 8) rfl))) Via.refl e0 S_B (g := (mkF m 1 #[.val (.ref wB), .val (.long q1), .second, .val (.long q2), .second] [(.ref wB)])) rfl (hb hby d1_1)
  have pre16 : ∀ t, Steps p.tables e below (T16.setTop (mkF m 4 #[.val (.ref wB), .val (.long q1), .second, .val (.long q2), .second] [(.ref wB), (.ref wB)])) t → Steps p.tables e below (s₁.setTop (entryFrame m #[(.ref wB), (.long q1), (.long q2)] 5)) t := fun t k => pre15 _ (st16 t k)
  have pre18 : ∀ t, Steps p.tables e below (T16.setTop (mkF m 7 #[.val (.ref wB), .val (.long q1), .second, .val (.long q2), .second] [])) t → Steps p.tables e below (s₁.setTop (entryFrame m #[(.ref wB), (.long q1), (.long q2)] 5)) t := fun t k => pre16 _ (Jvm.RoadKit.acmp (g := (mkF m 4 #[.val (.ref wB), .val (.long q1), .second, .val (.long q2), .second] [(.ref wB), (.ref wB)])) X16 hx rfl rfl rfl (pc0 := 4) (pc' := 7) (same := true) rfl (hb hby d1_4) rfl (decide_eq_true rfl) (by decide) (by decide) k)
  have pre19 : ∀ t, Steps p.tables e below (T16.setTop (mkF m 10 #[.val (.ref wB), .val (.long q1), .second, .val (.long q2), .second] [(.int (lcmpW q1 q2))])) t → Steps p.tables e below (s₁.setTop (entryFrame m #[(.ref wB), (.long q1), (.long q2)] 5)) t := fun t k => by
    refine pre18 _ ?_
    show Steps p.tables e below (T16.setTop (mkF m 7 #[.val (.ref wB), .val (.long q1), .second, .val (.long q2), .second] [])) _
    refine XS.lloadN X16.here hx rfl (hb hby d1_7) rfl ?_
    show Steps p.tables e below (T16.setTop (mkF m 8 #[.val (.ref wB), .val (.long q1), .second, .val (.long q2), .second] [(.long q1)])) _
    refine XS.lloadN X16.here hx rfl (hb hby d1_8) rfl ?_
    show Steps p.tables e below (T16.setTop (mkF m 9 #[.val (.ref wB), .val (.long q1), .second, .val (.long q2), .second] [(.long q2), (.long q1)])) _
    refine XS.lcmp X16.here hx rfl (hb hby d1_9) rfl ?_
    show Steps p.tables e below (T16.setTop (mkF m 10 #[.val (.ref wB), .val (.long q1), .second, .val (.long q2), .second] [(.int (lcmpW q1 q2))])) _
    exact k
  by_cases c20 : q2 < q1
  · have pre21 : ∀ t, Steps p.tables e below (T16.setTop (mkF m 13 #[.val (.ref wB), .val (.long q1), .second, .val (.long q2), .second] [])) t → Steps p.tables e below (s₁.setTop (entryFrame m #[(.ref wB), (.long q1), (.long q2)] 5)) t := fun t k => by
      refine pre19 _ ?_
      show Steps p.tables e below (T16.setTop (mkF m 10 #[.val (.ref wB), .val (.long q1), .second, .val (.long q2), .second] [(.int (lcmpW q1 q2))])) _
      refine XS.ifNo X16.here hx rfl (hb hby d1_10) rfl ((if0 _ _).trans (tlt ((lw_gt q1 q2).mpr c20)).2.2.2) ?_
      show Steps p.tables e below (T16.setTop (mkF m 13 #[.val (.ref wB), .val (.long q1), .second, .val (.long q2), .second] [])) _
      exact k
    have pre22 : ∀ t, Steps p.tables e below (T16.setTop (mkF m 32 #[.val (.ref wB), .val (.long q1), .second, .val (.long q2), .second] [(.int (1 : Int32))])) t → Steps p.tables e below (s₁.setTop (entryFrame m #[(.ref wB), (.long q1), (.long q2)] 5)) t := fun t k => by
      refine pre21 _ ?_
      show Steps p.tables e below (T16.setTop (mkF m 13 #[.val (.ref wB), .val (.long q1), .second, .val (.long q2), .second] [])) _
      refine XS.iconst X16.here hx rfl (hb hby d1_13) ?_
      show Steps p.tables e below (T16.setTop (mkF m 14 #[.val (.ref wB), .val (.long q1), .second, .val (.long q2), .second] [(.int (1 : Int32))])) _
      refine XS.goto X16.here hx rfl (pc0 := 14) (pc' := 32) rfl (hb hby d1_14) (by decide) (by decide) ?_
      show Steps p.tables e below (T16.setTop (mkF m 32 #[.val (.ref wB), .val (.long q1), .second, .val (.long q2), .second] [(.int (1 : Int32))])) _
      exact k
    obtain ⟨fs, hr, hrun, hended, hW, hsame⟩ := X16.leave (v := some (.int (1 : Int32))) (fun h => by rw [Bd.returns] at h; cases h)
    refine ⟨_, _, pre22 _ ?_, hrun, hended, _, _, rfl, ?_, ⟨_, rfl⟩, hW, hsame.mono (by decide) (by decide)⟩
    · show Steps p.tables e below (T16.setTop (mkF m 32 #[.val (.ref wB), .val (.long q1), .second, .val (.long q2), .second] [(.int (1 : Int32))])) _
      exact retN X16 hx (t := .boolean) Bd.returns (by simp) (hb hby d1_32) hr
    · have hv : own_ma_b q1 q2 = (1 : Int32) := by unfold own_ma_b; rw [if_pos c20]
      show Q1_b q1 q2 h0 n0 _ T16.heap _
      rw [e16]
      exact ⟨by rw [hv], N0, rfl⟩
  · have pre23 : ∀ t, Steps p.tables e below (T16.setTop (mkF m 17 #[.val (.ref wB), .val (.long q1), .second, .val (.long q2), .second] [])) t → Steps p.tables e below (s₁.setTop (entryFrame m #[(.ref wB), (.long q1), (.long q2)] 5)) t := fun t k => by
      refine pre19 _ ?_
      show Steps p.tables e below (T16.setTop (mkF m 10 #[.val (.ref wB), .val (.long q1), .second, .val (.long q2), .second] [(.int (lcmpW q1 q2))])) _
      refine XS.ifYes X16.here hx rfl (pc0 := 10) (pc' := 17) rfl (hb hby d1_10) rfl ((if0 _ _).trans (flt (fun q => c20 ((lw_gt q1 q2).mp q))).2.2.2) (by decide) (by decide) ?_
      show Steps p.tables e below (T16.setTop (mkF m 17 #[.val (.ref wB), .val (.long q1), .second, .val (.long q2), .second] [])) _
      exact k
    have pre24 : ∀ t, Steps p.tables e below (T16.setTop (mkF m 32 #[.val (.ref wB), .val (.long q1), .second, .val (.long q2), .second] [(.int (0 : Int32))])) t → Steps p.tables e below (s₁.setTop (entryFrame m #[(.ref wB), (.long q1), (.long q2)] 5)) t := fun t k => by
      refine pre23 _ ?_
      show Steps p.tables e below (T16.setTop (mkF m 17 #[.val (.ref wB), .val (.long q1), .second, .val (.long q2), .second] [])) _
      refine XS.iconst X16.here hx rfl (hb hby d1_17) ?_
      show Steps p.tables e below (T16.setTop (mkF m 18 #[.val (.ref wB), .val (.long q1), .second, .val (.long q2), .second] [(.int (0 : Int32))])) _
      refine XS.goto X16.here hx rfl (pc0 := 18) (pc' := 32) rfl (hb hby d1_18) (by decide) (by decide) ?_
      show Steps p.tables e below (T16.setTop (mkF m 32 #[.val (.ref wB), .val (.long q1), .second, .val (.long q2), .second] [(.int (0 : Int32))])) _
      exact k
    obtain ⟨fs, hr, hrun, hended, hW, hsame⟩ := X16.leave (v := some (.int (0 : Int32))) (fun h => by rw [Bd.returns] at h; cases h)
    refine ⟨_, _, pre24 _ ?_, hrun, hended, _, _, rfl, ?_, ⟨_, rfl⟩, hW, hsame.mono (by decide) (by decide)⟩
    · show Steps p.tables e below (T16.setTop (mkF m 32 #[.val (.ref wB), .val (.long q1), .second, .val (.long q2), .second] [(.int (0 : Int32))])) _
      exact retN X16 hx (t := .boolean) Bd.returns (by simp) (hb hby d1_32) hr
    · have hv : own_ma_b q1 q2 = (0 : Int32) := by unfold own_ma_b; rw [if_neg c20]
      show Q1_b q1 q2 h0 n0 _ T16.heap _
      rw [e16]
      exact ⟨by rw [hv], N0, rfl⟩
def own_ma_s (q1 : Int64) (q2 : Int64) : Int32 := if q1 < q2 then (1 : Int32) else (0 : Int32)
def Q1_s (q1 : Int64) (q2 : Int64) (h0 : Heap) (n0 : Nat) (v : Option Value) (h : Heap) (L : List Loc) : Prop := v = some (.int (own_ma_s q1 q2)) ∧ Fr n0 L ∧ h = h0
set_option maxRecDepth 65536 in
set_option maxHeartbeats 40000000 in
theorem rm1_s (l : Launch) (Z : State) (aZ : Array Value) (hw : ∀ d ∈ tables_1, d.before aZ Z = true) (ws : List Jvm.Cond) (wS : Addr) (q1 : Int64) (q2 : Int64) (wB : Addr) (h0 : Heap) (n0 : Nat) (Z0 : n0 ≤ h0.size) (S_B : Sta Z h0 "com/example/tidebook/tidebook/book/Side" "BUY" "Lcom/example/tidebook/tidebook/book/Side;" (.ref wB)) (S_S : Sta Z h0 "com/example/tidebook/tidebook/book/Side" "SELL" "Lcom/example/tidebook/tidebook/book/Side;" (.ref wS)) (hne : wS ≠ wB) :
    MetFree l (⟨"com/example/tidebook/tidebook/book/Side", "isMoreAggressive", "(JJ)Z"⟩ : MethodName) (head1 (Jvm.Cond.code (⟨"com/example/tidebook/tidebook/book/Side", "isMoreAggressive", "(JJ)Z"⟩ : MethodName) prog_12_method_9_code 5 (some .boolean) :: ws) ({ frames := 0, cells := 0, slots := 0, locals := 0 } : Room)) (fun a U => a = #[(.ref wS), (.long q1), (.long q2)] ∧ Z.Warmed39 U.vm ∧ U.heap = h0) (fun _ _ _ _ _ => True) (fun _ U o U' => ∃ v L, o = .returned v ∧ Q1_s q1 q2 h0 n0 v U'.heap L ∧ FrameEnd U o U' L ({ frames := 0, cells := 0, slots := 0, locals := 0 } : Room).cells ({ frames := 0, cells := 0, slots := 0, locals := 0 } : Room).slots) := by
  refine MetFree.of_bodySF (plainFor_of_name pn_1) hisR ?_
  intro p e s m args below meth c s₁ Bd hml0 hP hK
  obtain ⟨rfl, hZ, hh⟩ := hP
  have hx := Bd.exec
  have hby := Bd.bytes
  have hml : c.maxLocals = 5 := hml0
  have hown : s.vm.findClass "com/example/tidebook/tidebook/book/Side" = some m.cls := findClass_of_methodNamed Bd.named
  have hnm := (name_of_methodNamed Bd.named Bd.method).1
  have X0 : Stand p l e ({ frames := 0, cells := 0, slots := 0, locals := 0 } : Room) s m #[(.ref wS), (.long q1), (.long q2)] below meth c s₁ [] 0 0 := Stand.of_body Bd
  have e0 : s₁.heap = h0 := by rw [← hh, Bd.state]; rfl
  have N0 := Fr.nil n0
  have pre0 : ∀ t, Steps p.tables e below (s₁.setTop (mkF m 0 #[.val (.ref wS), .val (.long q1), .second, .val (.long q2), .second] [])) t → Steps p.tables e below (s₁.setTop (entryFrame m #[(.ref wS), (.long q1), (.long q2)] 5)) t := fun t k => castTop (ef_1 m wS q1 q2) k
  have pre35 : ∀ t, Steps p.tables e below (s₁.setTop (mkF m 1 #[.val (.ref wS), .val (.long q1), .second, .val (.long q2), .second] [(.ref wS)])) t → Steps p.tables e below (s₁.setTop (entryFrame m #[(.ref wS), (.long q1), (.long q2)] 5)) t := fun t k => by
    refine pre0 _ ?_
    show Steps p.tables e below (s₁.setTop (mkF m 0 #[.val (.ref wS), .val (.long q1), .second, .val (.long q2), .second] [])) _
    refine XS.aloadN X0.here hx rfl (hb hby d1_0) rfl rfl ?_
    show Steps p.tables e below (s₁.setTop (mkF m 1 #[.val (.ref wS), .val (.long q1), .second, .val (.long q2), .second] [(.ref wS)])) _
    exact k
  obtain ⟨T36, X36, e36, st36⟩ := getS2 X0 hx hZ hown (host := "") (Or.inl (hw _ (List.mem_of_getElem? (i := 8) rfl))) Via.refl e0 S_B (g := (mkF m 1 #[.val (.ref wS), .val (.long q1), .second, .val (.long q2), .second] [(.ref wS)])) rfl (hb hby d1_1)
  have pre36 : ∀ t, Steps p.tables e below (T36.setTop (mkF m 4 #[.val (.ref wS), .val (.long q1), .second, .val (.long q2), .second] [(.ref wB), (.ref wS)])) t → Steps p.tables e below (s₁.setTop (entryFrame m #[(.ref wS), (.long q1), (.long q2)] 5)) t := fun t k => pre35 _ (st36 t k)
  have pre38 : ∀ t, Steps p.tables e below (T36.setTop (mkF m 21 #[.val (.ref wS), .val (.long q1), .second, .val (.long q2), .second] [])) t → Steps p.tables e below (s₁.setTop (entryFrame m #[(.ref wS), (.long q1), (.long q2)] 5)) t := fun t k => pre36 _ (Jvm.RoadKit.acmp (g := (mkF m 4 #[.val (.ref wS), .val (.long q1), .second, .val (.long q2), .second] [(.ref wB), (.ref wS)])) X36 hx rfl rfl rfl (pc0 := 4) (pc' := 21) (same := false) rfl (hb hby d1_4) rfl (decide_eq_false fun q => hne (Value.ref.inj q)) (by decide) (by decide) k)
  have pre39 : ∀ t, Steps p.tables e below (T36.setTop (mkF m 24 #[.val (.ref wS), .val (.long q1), .second, .val (.long q2), .second] [(.int (lcmpW q1 q2))])) t → Steps p.tables e below (s₁.setTop (entryFrame m #[(.ref wS), (.long q1), (.long q2)] 5)) t := fun t k => by
    refine pre38 _ ?_
    show Steps p.tables e below (T36.setTop (mkF m 21 #[.val (.ref wS), .val (.long q1), .second, .val (.long q2), .second] [])) _
    refine XS.lloadN X36.here hx rfl (hb hby d1_21) rfl ?_
    show Steps p.tables e below (T36.setTop (mkF m 22 #[.val (.ref wS), .val (.long q1), .second, .val (.long q2), .second] [(.long q1)])) _
    refine XS.lloadN X36.here hx rfl (hb hby d1_22) rfl ?_
    show Steps p.tables e below (T36.setTop (mkF m 23 #[.val (.ref wS), .val (.long q1), .second, .val (.long q2), .second] [(.long q2), (.long q1)])) _
    refine XS.lcmp X36.here hx rfl (hb hby d1_23) rfl ?_
    show Steps p.tables e below (T36.setTop (mkF m 24 #[.val (.ref wS), .val (.long q1), .second, .val (.long q2), .second] [(.int (lcmpW q1 q2))])) _
    exact k
  by_cases c40 : q1 < q2
  · have pre41 : ∀ t, Steps p.tables e below (T36.setTop (mkF m 27 #[.val (.ref wS), .val (.long q1), .second, .val (.long q2), .second] [])) t → Steps p.tables e below (s₁.setTop (entryFrame m #[(.ref wS), (.long q1), (.long q2)] 5)) t := fun t k => by
      refine pre39 _ ?_
      show Steps p.tables e below (T36.setTop (mkF m 24 #[.val (.ref wS), .val (.long q1), .second, .val (.long q2), .second] [(.int (lcmpW q1 q2))])) _
      refine XS.ifNo X36.here hx rfl (hb hby d1_24) rfl ((if0 _ _).trans (tlt ((lw_lt q1 q2).mpr c40)).2.1) ?_
      show Steps p.tables e below (T36.setTop (mkF m 27 #[.val (.ref wS), .val (.long q1), .second, .val (.long q2), .second] [])) _
      exact k
    have pre42 : ∀ t, Steps p.tables e below (T36.setTop (mkF m 32 #[.val (.ref wS), .val (.long q1), .second, .val (.long q2), .second] [(.int (1 : Int32))])) t → Steps p.tables e below (s₁.setTop (entryFrame m #[(.ref wS), (.long q1), (.long q2)] 5)) t := fun t k => by
      refine pre41 _ ?_
      show Steps p.tables e below (T36.setTop (mkF m 27 #[.val (.ref wS), .val (.long q1), .second, .val (.long q2), .second] [])) _
      refine XS.iconst X36.here hx rfl (hb hby d1_27) ?_
      show Steps p.tables e below (T36.setTop (mkF m 28 #[.val (.ref wS), .val (.long q1), .second, .val (.long q2), .second] [(.int (1 : Int32))])) _
      refine XS.goto X36.here hx rfl (pc0 := 28) (pc' := 32) rfl (hb hby d1_28) (by decide) (by decide) ?_
      show Steps p.tables e below (T36.setTop (mkF m 32 #[.val (.ref wS), .val (.long q1), .second, .val (.long q2), .second] [(.int (1 : Int32))])) _
      exact k
    obtain ⟨fs, hr, hrun, hended, hW, hsame⟩ := X36.leave (v := some (.int (1 : Int32))) (fun h => by rw [Bd.returns] at h; cases h)
    refine ⟨_, _, pre42 _ ?_, hrun, hended, _, _, rfl, ?_, ⟨_, rfl⟩, hW, hsame.mono (by decide) (by decide)⟩
    · show Steps p.tables e below (T36.setTop (mkF m 32 #[.val (.ref wS), .val (.long q1), .second, .val (.long q2), .second] [(.int (1 : Int32))])) _
      exact retN X36 hx (t := .boolean) Bd.returns (by simp) (hb hby d1_32) hr
    · have hv : own_ma_s q1 q2 = (1 : Int32) := by unfold own_ma_s; rw [if_pos c40]
      show Q1_s q1 q2 h0 n0 _ T36.heap _
      rw [e36]
      exact ⟨by rw [hv], N0, rfl⟩
  · have pre43 : ∀ t, Steps p.tables e below (T36.setTop (mkF m 31 #[.val (.ref wS), .val (.long q1), .second, .val (.long q2), .second] [])) t → Steps p.tables e below (s₁.setTop (entryFrame m #[(.ref wS), (.long q1), (.long q2)] 5)) t := fun t k => by
      refine pre39 _ ?_
      show Steps p.tables e below (T36.setTop (mkF m 24 #[.val (.ref wS), .val (.long q1), .second, .val (.long q2), .second] [(.int (lcmpW q1 q2))])) _
      refine XS.ifYes X36.here hx rfl (pc0 := 24) (pc' := 31) rfl (hb hby d1_24) rfl ((if0 _ _).trans (flt (fun q => c40 ((lw_lt q1 q2).mp q))).2.1) (by decide) (by decide) ?_
      show Steps p.tables e below (T36.setTop (mkF m 31 #[.val (.ref wS), .val (.long q1), .second, .val (.long q2), .second] [])) _
      exact k
    have pre44 : ∀ t, Steps p.tables e below (T36.setTop (mkF m 32 #[.val (.ref wS), .val (.long q1), .second, .val (.long q2), .second] [(.int (0 : Int32))])) t → Steps p.tables e below (s₁.setTop (entryFrame m #[(.ref wS), (.long q1), (.long q2)] 5)) t := fun t k => by
      refine pre43 _ ?_
      show Steps p.tables e below (T36.setTop (mkF m 31 #[.val (.ref wS), .val (.long q1), .second, .val (.long q2), .second] [])) _
      refine XS.iconst X36.here hx rfl (hb hby d1_31) ?_
      show Steps p.tables e below (T36.setTop (mkF m 32 #[.val (.ref wS), .val (.long q1), .second, .val (.long q2), .second] [(.int (0 : Int32))])) _
      exact k
    obtain ⟨fs, hr, hrun, hended, hW, hsame⟩ := X36.leave (v := some (.int (0 : Int32))) (fun h => by rw [Bd.returns] at h; cases h)
    refine ⟨_, _, pre44 _ ?_, hrun, hended, _, _, rfl, ?_, ⟨_, rfl⟩, hW, hsame.mono (by decide) (by decide)⟩
    · show Steps p.tables e below (T36.setTop (mkF m 32 #[.val (.ref wS), .val (.long q1), .second, .val (.long q2), .second] [(.int (0 : Int32))])) _
      exact retN X36 hx (t := .boolean) Bd.returns (by simp) (hb hby d1_32) hr
    · have hv : own_ma_s q1 q2 = (0 : Int32) := by unfold own_ma_s; rw [if_neg c40]
      show Q1_s q1 q2 h0 n0 _ T36.heap _
      rw [e36]
      exact ⟨by rw [hv], N0, rfl⟩
theorem d3_0 : decode prog_12_method_8_code 0 = .ok (.aload_n 0, 1) := by decide +kernel
theorem d3_1 : decode prog_12_method_8_code 1 = .ok (.getstatic 3, 3) := by decide +kernel
theorem d3_4 : decode prog_12_method_8_code 4 = .ok (.if_acmp .ne 11, 3) := by decide +kernel
theorem d3_7 : decode prog_12_method_8_code 7 = .ok (.lload_n 1, 1) := by decide +kernel
theorem d3_8 : decode prog_12_method_8_code 8 = .ok (.lload_n 3, 1) := by decide +kernel
theorem d3_9 : decode prog_12_method_8_code 9 = .ok (.invokestatic 42, 3) := by decide +kernel
theorem d3_12 : decode prog_12_method_8_code 12 = .ok (.goto 8, 3) := by decide +kernel
theorem d3_15 : decode prog_12_method_8_code 15 = .ok (.lload_n 1, 1) := by decide +kernel
theorem d3_16 : decode prog_12_method_8_code 16 = .ok (.lload_n 3, 1) := by decide +kernel
theorem d3_17 : decode prog_12_method_8_code 17 = .ok (.invokestatic 47, 3) := by decide +kernel
theorem d3_20 : decode prog_12_method_8_code 20 = .ok (.lreturn, 1) := by decide +kernel
theorem ef_3 (m : MethodId) (x0 : Addr) (x1 : Int64) (x2 : Int64) : entryFrame m #[(.ref x0), (.long x1), (.long x2)] 5 = mkF m 0 #[.val (.ref x0), .val (.long x1), .second, .val (.long x2), .second] [] := by first | (simp [entryFrame, mkF, argsToLocals, Value.category]; done) | rfl
def own_la_b (q1 : Int64) (q2 : Int64) : Int64 := (own_min q1 q2)
def Q3_b (q1 : Int64) (q2 : Int64) (h0 : Heap) (n0 : Nat) (v : Option Value) (h : Heap) (L : List Loc) : Prop := v = some (.long (own_la_b q1 q2)) ∧ Fr n0 L ∧ h = h0
set_option maxRecDepth 65536 in
set_option maxHeartbeats 40000000 in
theorem rm3_b (l : Launch) (Z : State) (aZ : Array Value) (hw : ∀ d ∈ tables_1, d.before aZ Z = true) (ws : List Jvm.Cond) (wB : Addr) (q1 : Int64) (q2 : Int64) (wS : Addr) (h0 : Heap) (n0 : Nat) (Z0 : n0 ≤ h0.size) (S_B : Sta Z h0 "com/example/tidebook/tidebook/book/Side" "BUY" "Lcom/example/tidebook/tidebook/book/Side;" (.ref wB)) (S_S : Sta Z h0 "com/example/tidebook/tidebook/book/Side" "SELL" "Lcom/example/tidebook/tidebook/book/Side;" (.ref wS)) (hne : wS ≠ wB) :
    MetFree l (⟨"com/example/tidebook/tidebook/book/Side", "lessAggressive", "(JJ)J"⟩ : MethodName) (head1 (Jvm.Cond.code (⟨"com/example/tidebook/tidebook/book/Side", "lessAggressive", "(JJ)J"⟩ : MethodName) prog_12_method_8_code 5 (some .long) :: ws) ({ frames := 1, cells := 0, slots := 0, locals := 15 } : Room)) (fun a U => a = #[(.ref wB), (.long q1), (.long q2)] ∧ Z.Warmed39 U.vm ∧ U.heap = h0) (fun _ _ _ _ _ => True) (fun _ U o U' => ∃ v L, o = .returned v ∧ Q3_b q1 q2 h0 n0 v U'.heap L ∧ FrameEnd U o U' L ({ frames := 1, cells := 0, slots := 0, locals := 15 } : Room).cells ({ frames := 1, cells := 0, slots := 0, locals := 15 } : Room).slots) := by
  refine MetFree.of_bodySF (plainFor_of_name pn_1) hisR ?_
  intro p e s m args below meth c s₁ Bd hml0 hP hK
  obtain ⟨rfl, hZ, hh⟩ := hP
  have hx := Bd.exec
  have hby := Bd.bytes
  have hml : c.maxLocals = 5 := hml0
  have hown : s.vm.findClass "com/example/tidebook/tidebook/book/Side" = some m.cls := findClass_of_methodNamed Bd.named
  have hnm := (name_of_methodNamed Bd.named Bd.method).1
  have X0 : Stand p l e ({ frames := 1, cells := 0, slots := 0, locals := 15 } : Room) s m #[(.ref wB), (.long q1), (.long q2)] below meth c s₁ [] 0 0 := Stand.of_body Bd
  have e0 : s₁.heap = h0 := by rw [← hh, Bd.state]; rfl
  have N0 := Fr.nil n0
  have pre0 : ∀ t, Steps p.tables e below (s₁.setTop (mkF m 0 #[.val (.ref wB), .val (.long q1), .second, .val (.long q2), .second] [])) t → Steps p.tables e below (s₁.setTop (entryFrame m #[(.ref wB), (.long q1), (.long q2)] 5)) t := fun t k => castTop (ef_3 m wB q1 q2) k
  have pre52 : ∀ t, Steps p.tables e below (s₁.setTop (mkF m 1 #[.val (.ref wB), .val (.long q1), .second, .val (.long q2), .second] [(.ref wB)])) t → Steps p.tables e below (s₁.setTop (entryFrame m #[(.ref wB), (.long q1), (.long q2)] 5)) t := fun t k => by
    refine pre0 _ ?_
    show Steps p.tables e below (s₁.setTop (mkF m 0 #[.val (.ref wB), .val (.long q1), .second, .val (.long q2), .second] [])) _
    refine XS.aloadN X0.here hx rfl (hb hby d3_0) rfl rfl ?_
    show Steps p.tables e below (s₁.setTop (mkF m 1 #[.val (.ref wB), .val (.long q1), .second, .val (.long q2), .second] [(.ref wB)])) _
    exact k
  obtain ⟨T53, X53, e53, st53⟩ := getS2 X0 hx hZ hown (host := "") (Or.inl (hw _ (List.mem_of_getElem? (i := 8) rfl))) Via.refl e0 S_B (g := (mkF m 1 #[.val (.ref wB), .val (.long q1), .second, .val (.long q2), .second] [(.ref wB)])) rfl (hb hby d3_1)
  have pre53 : ∀ t, Steps p.tables e below (T53.setTop (mkF m 4 #[.val (.ref wB), .val (.long q1), .second, .val (.long q2), .second] [(.ref wB), (.ref wB)])) t → Steps p.tables e below (s₁.setTop (entryFrame m #[(.ref wB), (.long q1), (.long q2)] 5)) t := fun t k => pre52 _ (st53 t k)
  have pre55 : ∀ t, Steps p.tables e below (T53.setTop (mkF m 7 #[.val (.ref wB), .val (.long q1), .second, .val (.long q2), .second] [])) t → Steps p.tables e below (s₁.setTop (entryFrame m #[(.ref wB), (.long q1), (.long q2)] 5)) t := fun t k => pre53 _ (Jvm.RoadKit.acmp (g := (mkF m 4 #[.val (.ref wB), .val (.long q1), .second, .val (.long q2), .second] [(.ref wB), (.ref wB)])) X53 hx rfl rfl rfl (pc0 := 4) (pc' := 7) (same := true) rfl (hb hby d3_4) rfl (decide_eq_true rfl) (by decide) (by decide) k)
  have pre56 : ∀ t, Steps p.tables e below (T53.setTop (mkF m 9 #[.val (.ref wB), .val (.long q1), .second, .val (.long q2), .second] [(.long q2), (.long q1)])) t → Steps p.tables e below (s₁.setTop (entryFrame m #[(.ref wB), (.long q1), (.long q2)] 5)) t := fun t k => by
    refine pre55 _ ?_
    show Steps p.tables e below (T53.setTop (mkF m 7 #[.val (.ref wB), .val (.long q1), .second, .val (.long q2), .second] [])) _
    refine XS.lloadN X53.here hx rfl (hb hby d3_7) rfl ?_
    show Steps p.tables e below (T53.setTop (mkF m 8 #[.val (.ref wB), .val (.long q1), .second, .val (.long q2), .second] [(.long q1)])) _
    refine XS.lloadN X53.here hx rfl (hb hby d3_8) rfl ?_
    show Steps p.tables e below (T53.setTop (mkF m 9 #[.val (.ref wB), .val (.long q1), .second, .val (.long q2), .second] [(.long q2), (.long q1)])) _
    exact k
  obtain ⟨_, _, ⟨T57, L57, k57, n57⟩, -, X57, ⟨Lc57, hQ57, l57, y57, z57⟩, st57⟩ := Jvm.LawKit.callS X53 hx (y := (⟨"java/lang/Math", "min", "(JJ)J"⟩ : MethodName)) hown (mvT hZ (hw _ (List.mem_of_getElem? (i := 21) rfl))) (mvT hZ (hw _ (List.mem_of_getElem? (i := 22) rfl))) (mvT hZ (hw _ (List.mem_of_getElem? (i := 23) rfl))) (mvT hZ (hw _ (List.mem_of_getElem? (i := 24) rfl))) (by decide) (backOf (W := 0) (rm4 l Z aZ hw [] q1 q2  h0 n0 Z0 ) hZ (hw _ (List.mem_of_getElem? (i := 24) rfl)) (hw _ (List.mem_of_getElem? (i := 23) rfl)) (by decide) (by decide)) (g := (mkF m 9 #[.val (.ref wB), .val (.long q1), .second, .val (.long q2), .second] [(.long q2), (.long q1)])) rfl (by rw [hml]; rfl) (argsL := [(.long q1), (.long q2)]) (rest := []) (lenOf pd_2 rfl) rfl (by show 2 * 0 + _ ≤ _; exact Nat.le_of_eq rfl) (hb hby d3_9) (fun _ _ => ⟨rfl, e53, (by decide : 0 + 0 ≤ _), (by decide : 0 + 0 ≤ _)⟩)
  dsimp only [Pt.U, Pt.locs, Pt.cells, Pt.slots] at X57 l57 y57 z57 st57 hQ57
  subst l57 y57 z57
  obtain ⟨rfl, N57q, e57⟩ := hQ57
  have N57 := Fr.app N0 N57q
  have pre57 : ∀ t, Steps p.tables e below (T57.setTop (mkF m 12 #[.val (.ref wB), .val (.long q1), .second, .val (.long q2), .second] [(.long (own_min q1 q2))])) t → Steps p.tables e below (s₁.setTop (entryFrame m #[(.ref wB), (.long q1), (.long q2)] 5)) t := fun t k => pre56 _ (st57 t k)
  have pre58 : ∀ t, Steps p.tables e below (T57.setTop (mkF m 20 #[.val (.ref wB), .val (.long q1), .second, .val (.long q2), .second] [(.long (own_min q1 q2))])) t → Steps p.tables e below (s₁.setTop (entryFrame m #[(.ref wB), (.long q1), (.long q2)] 5)) t := fun t k => by
    refine pre57 _ ?_
    show Steps p.tables e below (T57.setTop (mkF m 12 #[.val (.ref wB), .val (.long q1), .second, .val (.long q2), .second] [(.long (own_min q1 q2))])) _
    refine XS.goto X57.here hx rfl (pc0 := 12) (pc' := 20) rfl (hb hby d3_12) (by decide) (by decide) ?_
    show Steps p.tables e below (T57.setTop (mkF m 20 #[.val (.ref wB), .val (.long q1), .second, .val (.long q2), .second] [(.long (own_min q1 q2))])) _
    exact k
  obtain ⟨fs, hr, hrun, hended, hW, hsame⟩ := X57.leave (v := some (.long (own_min q1 q2))) (fun h => by rw [Bd.returns] at h; cases h)
  refine ⟨_, _, pre58 _ ?_, hrun, hended, _, _, rfl, ?_, ⟨_, rfl⟩, hW, hsame.mono (by decide) (by decide)⟩
  · show Steps p.tables e below (T57.setTop (mkF m 20 #[.val (.ref wB), .val (.long q1), .second, .val (.long q2), .second] [(.long (own_min q1 q2))])) _
    exact Jvm.Stand.lreturnOut X57 hx Bd.returns (hb hby d3_20) hr
  · have hv : own_la_b q1 q2 = (own_min q1 q2) := by unfold own_la_b; rfl
    show Q3_b q1 q2 h0 n0 _ T57.heap _
    rw [e57]
    exact ⟨by rw [hv], N57, rfl⟩
def own_la_s (q1 : Int64) (q2 : Int64) : Int64 := (own_max q1 q2)
def Q3_s (q1 : Int64) (q2 : Int64) (h0 : Heap) (n0 : Nat) (v : Option Value) (h : Heap) (L : List Loc) : Prop := v = some (.long (own_la_s q1 q2)) ∧ Fr n0 L ∧ h = h0
set_option maxRecDepth 65536 in
set_option maxHeartbeats 40000000 in
theorem rm3_s (l : Launch) (Z : State) (aZ : Array Value) (hw : ∀ d ∈ tables_1, d.before aZ Z = true) (ws : List Jvm.Cond) (wS : Addr) (q1 : Int64) (q2 : Int64) (wB : Addr) (h0 : Heap) (n0 : Nat) (Z0 : n0 ≤ h0.size) (S_B : Sta Z h0 "com/example/tidebook/tidebook/book/Side" "BUY" "Lcom/example/tidebook/tidebook/book/Side;" (.ref wB)) (S_S : Sta Z h0 "com/example/tidebook/tidebook/book/Side" "SELL" "Lcom/example/tidebook/tidebook/book/Side;" (.ref wS)) (hne : wS ≠ wB) :
    MetFree l (⟨"com/example/tidebook/tidebook/book/Side", "lessAggressive", "(JJ)J"⟩ : MethodName) (head1 (Jvm.Cond.code (⟨"com/example/tidebook/tidebook/book/Side", "lessAggressive", "(JJ)J"⟩ : MethodName) prog_12_method_8_code 5 (some .long) :: ws) ({ frames := 1, cells := 0, slots := 0, locals := 15 } : Room)) (fun a U => a = #[(.ref wS), (.long q1), (.long q2)] ∧ Z.Warmed39 U.vm ∧ U.heap = h0) (fun _ _ _ _ _ => True) (fun _ U o U' => ∃ v L, o = .returned v ∧ Q3_s q1 q2 h0 n0 v U'.heap L ∧ FrameEnd U o U' L ({ frames := 1, cells := 0, slots := 0, locals := 15 } : Room).cells ({ frames := 1, cells := 0, slots := 0, locals := 15 } : Room).slots) := by
  refine MetFree.of_bodySF (plainFor_of_name pn_1) hisR ?_
  intro p e s m args below meth c s₁ Bd hml0 hP hK
  obtain ⟨rfl, hZ, hh⟩ := hP
  have hx := Bd.exec
  have hby := Bd.bytes
  have hml : c.maxLocals = 5 := hml0
  have hown : s.vm.findClass "com/example/tidebook/tidebook/book/Side" = some m.cls := findClass_of_methodNamed Bd.named
  have hnm := (name_of_methodNamed Bd.named Bd.method).1
  have X0 : Stand p l e ({ frames := 1, cells := 0, slots := 0, locals := 15 } : Room) s m #[(.ref wS), (.long q1), (.long q2)] below meth c s₁ [] 0 0 := Stand.of_body Bd
  have e0 : s₁.heap = h0 := by rw [← hh, Bd.state]; rfl
  have N0 := Fr.nil n0
  have pre0 : ∀ t, Steps p.tables e below (s₁.setTop (mkF m 0 #[.val (.ref wS), .val (.long q1), .second, .val (.long q2), .second] [])) t → Steps p.tables e below (s₁.setTop (entryFrame m #[(.ref wS), (.long q1), (.long q2)] 5)) t := fun t k => castTop (ef_3 m wS q1 q2) k
  have pre66 : ∀ t, Steps p.tables e below (s₁.setTop (mkF m 1 #[.val (.ref wS), .val (.long q1), .second, .val (.long q2), .second] [(.ref wS)])) t → Steps p.tables e below (s₁.setTop (entryFrame m #[(.ref wS), (.long q1), (.long q2)] 5)) t := fun t k => by
    refine pre0 _ ?_
    show Steps p.tables e below (s₁.setTop (mkF m 0 #[.val (.ref wS), .val (.long q1), .second, .val (.long q2), .second] [])) _
    refine XS.aloadN X0.here hx rfl (hb hby d3_0) rfl rfl ?_
    show Steps p.tables e below (s₁.setTop (mkF m 1 #[.val (.ref wS), .val (.long q1), .second, .val (.long q2), .second] [(.ref wS)])) _
    exact k
  obtain ⟨T67, X67, e67, st67⟩ := getS2 X0 hx hZ hown (host := "") (Or.inl (hw _ (List.mem_of_getElem? (i := 8) rfl))) Via.refl e0 S_B (g := (mkF m 1 #[.val (.ref wS), .val (.long q1), .second, .val (.long q2), .second] [(.ref wS)])) rfl (hb hby d3_1)
  have pre67 : ∀ t, Steps p.tables e below (T67.setTop (mkF m 4 #[.val (.ref wS), .val (.long q1), .second, .val (.long q2), .second] [(.ref wB), (.ref wS)])) t → Steps p.tables e below (s₁.setTop (entryFrame m #[(.ref wS), (.long q1), (.long q2)] 5)) t := fun t k => pre66 _ (st67 t k)
  have pre69 : ∀ t, Steps p.tables e below (T67.setTop (mkF m 15 #[.val (.ref wS), .val (.long q1), .second, .val (.long q2), .second] [])) t → Steps p.tables e below (s₁.setTop (entryFrame m #[(.ref wS), (.long q1), (.long q2)] 5)) t := fun t k => pre67 _ (Jvm.RoadKit.acmp (g := (mkF m 4 #[.val (.ref wS), .val (.long q1), .second, .val (.long q2), .second] [(.ref wB), (.ref wS)])) X67 hx rfl rfl rfl (pc0 := 4) (pc' := 15) (same := false) rfl (hb hby d3_4) rfl (decide_eq_false fun q => hne (Value.ref.inj q)) (by decide) (by decide) k)
  have pre70 : ∀ t, Steps p.tables e below (T67.setTop (mkF m 17 #[.val (.ref wS), .val (.long q1), .second, .val (.long q2), .second] [(.long q2), (.long q1)])) t → Steps p.tables e below (s₁.setTop (entryFrame m #[(.ref wS), (.long q1), (.long q2)] 5)) t := fun t k => by
    refine pre69 _ ?_
    show Steps p.tables e below (T67.setTop (mkF m 15 #[.val (.ref wS), .val (.long q1), .second, .val (.long q2), .second] [])) _
    refine XS.lloadN X67.here hx rfl (hb hby d3_15) rfl ?_
    show Steps p.tables e below (T67.setTop (mkF m 16 #[.val (.ref wS), .val (.long q1), .second, .val (.long q2), .second] [(.long q1)])) _
    refine XS.lloadN X67.here hx rfl (hb hby d3_16) rfl ?_
    show Steps p.tables e below (T67.setTop (mkF m 17 #[.val (.ref wS), .val (.long q1), .second, .val (.long q2), .second] [(.long q2), (.long q1)])) _
    exact k
  obtain ⟨_, _, ⟨T71, L71, k71, n71⟩, -, X71, ⟨Lc71, hQ71, l71, y71, z71⟩, st71⟩ := Jvm.LawKit.callS X67 hx (y := (⟨"java/lang/Math", "max", "(JJ)J"⟩ : MethodName)) hown (mvT hZ (hw _ (List.mem_of_getElem? (i := 26) rfl))) (mvT hZ (hw _ (List.mem_of_getElem? (i := 27) rfl))) (mvT hZ (hw _ (List.mem_of_getElem? (i := 23) rfl))) (mvT hZ (hw _ (List.mem_of_getElem? (i := 28) rfl))) (by decide) (backOf (W := 0) (rm5 l Z aZ hw [] q1 q2  h0 n0 Z0 ) hZ (hw _ (List.mem_of_getElem? (i := 28) rfl)) (hw _ (List.mem_of_getElem? (i := 23) rfl)) (by decide) (by decide)) (g := (mkF m 17 #[.val (.ref wS), .val (.long q1), .second, .val (.long q2), .second] [(.long q2), (.long q1)])) rfl (by rw [hml]; rfl) (argsL := [(.long q1), (.long q2)]) (rest := []) (lenOf pd_2 rfl) rfl (by show 2 * 0 + _ ≤ _; exact Nat.le_of_eq rfl) (hb hby d3_17) (fun _ _ => ⟨rfl, e67, (by decide : 0 + 0 ≤ _), (by decide : 0 + 0 ≤ _)⟩)
  dsimp only [Pt.U, Pt.locs, Pt.cells, Pt.slots] at X71 l71 y71 z71 st71 hQ71
  subst l71 y71 z71
  obtain ⟨rfl, N71q, e71⟩ := hQ71
  have N71 := Fr.app N0 N71q
  have pre71 : ∀ t, Steps p.tables e below (T71.setTop (mkF m 20 #[.val (.ref wS), .val (.long q1), .second, .val (.long q2), .second] [(.long (own_max q1 q2))])) t → Steps p.tables e below (s₁.setTop (entryFrame m #[(.ref wS), (.long q1), (.long q2)] 5)) t := fun t k => pre70 _ (st71 t k)
  obtain ⟨fs, hr, hrun, hended, hW, hsame⟩ := X71.leave (v := some (.long (own_max q1 q2))) (fun h => by rw [Bd.returns] at h; cases h)
  refine ⟨_, _, pre71 _ ?_, hrun, hended, _, _, rfl, ?_, ⟨_, rfl⟩, hW, hsame.mono (by decide) (by decide)⟩
  · show Steps p.tables e below (T71.setTop (mkF m 20 #[.val (.ref wS), .val (.long q1), .second, .val (.long q2), .second] [(.long (own_max q1 q2))])) _
    exact Jvm.Stand.lreturnOut X71 hx Bd.returns (hb hby d3_20) hr
  · have hv : own_la_s q1 q2 = (own_max q1 q2) := by unfold own_la_s; rfl
    show Q3_s q1 q2 h0 n0 _ T71.heap _
    rw [e71]
    exact ⟨by rw [hv], N71, rfl⟩
theorem d2_0 : decode prog_12_method_4_code 0 = .ok (.aload_n 0, 1) := by decide +kernel
theorem d2_1 : decode prog_12_method_4_code 1 = .ok (.getstatic 3, 3) := by decide +kernel
theorem d2_4 : decode prog_12_method_4_code 4 = .ok (.if_acmp .ne 9, 3) := by decide +kernel
theorem d2_7 : decode prog_12_method_4_code 7 = .ok (.getstatic 7, 3) := by decide +kernel
theorem d2_10 : decode prog_12_method_4_code 10 = .ok (.goto 6, 3) := by decide +kernel
theorem d2_13 : decode prog_12_method_4_code 13 = .ok (.getstatic 3, 3) := by decide +kernel
theorem d2_16 : decode prog_12_method_4_code 16 = .ok (.areturn, 1) := by decide +kernel
theorem ef_2 (m : MethodId) (x0 : Addr) : entryFrame m #[(.ref x0)] 1 = mkF m 0 #[.val (.ref x0)] [] := by first | (simp [entryFrame, mkF, argsToLocals, Value.category]; done) | rfl
def Q2_b (wo : Addr) (h0 : Heap) (n0 : Nat) (v : Option Value) (h : Heap) (L : List Loc) : Prop := v = some (.ref wo) ∧ Fr n0 L ∧ h = h0
set_option maxRecDepth 65536 in
set_option maxHeartbeats 40000000 in
theorem rm2_b (l : Launch) (Z : State) (aZ : Array Value) (hw : ∀ d ∈ tables_1, d.before aZ Z = true) (ws : List Jvm.Cond) (wB : Addr) (wS : Addr) (h0 : Heap) (n0 : Nat) (Z0 : n0 ≤ h0.size) (S_B : Sta Z h0 "com/example/tidebook/tidebook/book/Side" "BUY" "Lcom/example/tidebook/tidebook/book/Side;" (.ref wB)) (S_S : Sta Z h0 "com/example/tidebook/tidebook/book/Side" "SELL" "Lcom/example/tidebook/tidebook/book/Side;" (.ref wS)) (hne : wS ≠ wB) :
    MetFree l (⟨"com/example/tidebook/tidebook/book/Side", "opposite", "()Lcom/example/tidebook/tidebook/book/Side;"⟩ : MethodName) (head1 (Jvm.Cond.code (⟨"com/example/tidebook/tidebook/book/Side", "opposite", "()Lcom/example/tidebook/tidebook/book/Side;"⟩ : MethodName) prog_12_method_4_code 1 (some (.object "com/example/tidebook/tidebook/book/Side")) :: ws) ({ frames := 0, cells := 0, slots := 0, locals := 0 } : Room)) (fun a U => a = #[(.ref wB)] ∧ Z.Warmed39 U.vm ∧ U.heap = h0) (fun _ _ _ _ _ => True) (fun _ U o U' => ∃ v L, o = .returned v ∧ Q2_b wS h0 n0 v U'.heap L ∧ FrameEnd U o U' L ({ frames := 0, cells := 0, slots := 0, locals := 0 } : Room).cells ({ frames := 0, cells := 0, slots := 0, locals := 0 } : Room).slots) := by
  refine MetFree.of_bodySF (plainFor_of_name pn_1) hisR ?_
  intro p e s m args below meth c s₁ Bd hml0 hP hK
  obtain ⟨rfl, hZ, hh⟩ := hP
  have hx := Bd.exec
  have hby := Bd.bytes
  have hml : c.maxLocals = 1 := hml0
  have hown : s.vm.findClass "com/example/tidebook/tidebook/book/Side" = some m.cls := findClass_of_methodNamed Bd.named
  have hnm := (name_of_methodNamed Bd.named Bd.method).1
  have X0 : Stand p l e ({ frames := 0, cells := 0, slots := 0, locals := 0 } : Room) s m #[(.ref wB)] below meth c s₁ [] 0 0 := Stand.of_body Bd
  have e0 : s₁.heap = h0 := by rw [← hh, Bd.state]; rfl
  have N0 := Fr.nil n0
  have pre0 : ∀ t, Steps p.tables e below (s₁.setTop (mkF m 0 #[.val (.ref wB)] [])) t → Steps p.tables e below (s₁.setTop (entryFrame m #[(.ref wB)] 1)) t := fun t k => castTop (ef_2 m wB) k
  have pre73 : ∀ t, Steps p.tables e below (s₁.setTop (mkF m 1 #[.val (.ref wB)] [(.ref wB)])) t → Steps p.tables e below (s₁.setTop (entryFrame m #[(.ref wB)] 1)) t := fun t k => by
    refine pre0 _ ?_
    show Steps p.tables e below (s₁.setTop (mkF m 0 #[.val (.ref wB)] [])) _
    refine XS.aloadN X0.here hx rfl (hb hby d2_0) rfl rfl ?_
    show Steps p.tables e below (s₁.setTop (mkF m 1 #[.val (.ref wB)] [(.ref wB)])) _
    exact k
  obtain ⟨T74, X74, e74, st74⟩ := getS2 X0 hx hZ hown (host := "") (Or.inl (hw _ (List.mem_of_getElem? (i := 8) rfl))) Via.refl e0 S_B (g := (mkF m 1 #[.val (.ref wB)] [(.ref wB)])) rfl (hb hby d2_1)
  have pre74 : ∀ t, Steps p.tables e below (T74.setTop (mkF m 4 #[.val (.ref wB)] [(.ref wB), (.ref wB)])) t → Steps p.tables e below (s₁.setTop (entryFrame m #[(.ref wB)] 1)) t := fun t k => pre73 _ (st74 t k)
  have pre76 : ∀ t, Steps p.tables e below (T74.setTop (mkF m 7 #[.val (.ref wB)] [])) t → Steps p.tables e below (s₁.setTop (entryFrame m #[(.ref wB)] 1)) t := fun t k => pre74 _ (Jvm.RoadKit.acmp (g := (mkF m 4 #[.val (.ref wB)] [(.ref wB), (.ref wB)])) X74 hx rfl rfl rfl (pc0 := 4) (pc' := 7) (same := true) rfl (hb hby d2_4) rfl (decide_eq_true rfl) (by decide) (by decide) k)
  obtain ⟨T78, X78, e78, st78⟩ := getS2 X74 hx hZ hown (host := "") (Or.inl (hw _ (List.mem_of_getElem? (i := 14) rfl))) Via.refl e74 S_S (g := (mkF m 7 #[.val (.ref wB)] [])) rfl (hb hby d2_7)
  have pre78 : ∀ t, Steps p.tables e below (T78.setTop (mkF m 10 #[.val (.ref wB)] [(.ref wS)])) t → Steps p.tables e below (s₁.setTop (entryFrame m #[(.ref wB)] 1)) t := fun t k => pre76 _ (st78 t k)
  have pre79 : ∀ t, Steps p.tables e below (T78.setTop (mkF m 16 #[.val (.ref wB)] [(.ref wS)])) t → Steps p.tables e below (s₁.setTop (entryFrame m #[(.ref wB)] 1)) t := fun t k => by
    refine pre78 _ ?_
    show Steps p.tables e below (T78.setTop (mkF m 10 #[.val (.ref wB)] [(.ref wS)])) _
    refine XS.goto X78.here hx rfl (pc0 := 10) (pc' := 16) rfl (hb hby d2_10) (by decide) (by decide) ?_
    show Steps p.tables e below (T78.setTop (mkF m 16 #[.val (.ref wB)] [(.ref wS)])) _
    exact k
  obtain ⟨fs, hr, hrun, hended, hW, hsame⟩ := X78.leave (v := some (.ref wS)) (fun h => by rw [Bd.returns] at h; cases h)
  refine ⟨_, _, pre79 _ ?_, hrun, hended, _, _, rfl, ?_, ⟨_, rfl⟩, hW, hsame.mono (by decide) (by decide)⟩
  · show Steps p.tables e below (T78.setTop (mkF m 16 #[.val (.ref wB)] [(.ref wS)])) _
    jvm_step X78.here [X78.here.top, hx, (hb hby d2_16), X78.method', Bd.returns, Value.isRef, FieldType.isReference]
    first | (intro acts; rw [hr _ acts rfl rfl rfl]) | rw [hr _ _ rfl rfl rfl]
    exact Steps.refl _
  · show Q2_b wS h0 n0 _ T78.heap _
    rw [e78]
    exact ⟨rfl, N0, rfl⟩
def Q2_s (wo : Addr) (h0 : Heap) (n0 : Nat) (v : Option Value) (h : Heap) (L : List Loc) : Prop := v = some (.ref wo) ∧ Fr n0 L ∧ h = h0
set_option maxRecDepth 65536 in
set_option maxHeartbeats 40000000 in
theorem rm2_s (l : Launch) (Z : State) (aZ : Array Value) (hw : ∀ d ∈ tables_1, d.before aZ Z = true) (ws : List Jvm.Cond) (wS : Addr) (wB : Addr) (h0 : Heap) (n0 : Nat) (Z0 : n0 ≤ h0.size) (S_B : Sta Z h0 "com/example/tidebook/tidebook/book/Side" "BUY" "Lcom/example/tidebook/tidebook/book/Side;" (.ref wB)) (S_S : Sta Z h0 "com/example/tidebook/tidebook/book/Side" "SELL" "Lcom/example/tidebook/tidebook/book/Side;" (.ref wS)) (hne : wS ≠ wB) :
    MetFree l (⟨"com/example/tidebook/tidebook/book/Side", "opposite", "()Lcom/example/tidebook/tidebook/book/Side;"⟩ : MethodName) (head1 (Jvm.Cond.code (⟨"com/example/tidebook/tidebook/book/Side", "opposite", "()Lcom/example/tidebook/tidebook/book/Side;"⟩ : MethodName) prog_12_method_4_code 1 (some (.object "com/example/tidebook/tidebook/book/Side")) :: ws) ({ frames := 0, cells := 0, slots := 0, locals := 0 } : Room)) (fun a U => a = #[(.ref wS)] ∧ Z.Warmed39 U.vm ∧ U.heap = h0) (fun _ _ _ _ _ => True) (fun _ U o U' => ∃ v L, o = .returned v ∧ Q2_s wB h0 n0 v U'.heap L ∧ FrameEnd U o U' L ({ frames := 0, cells := 0, slots := 0, locals := 0 } : Room).cells ({ frames := 0, cells := 0, slots := 0, locals := 0 } : Room).slots) := by
  refine MetFree.of_bodySF (plainFor_of_name pn_1) hisR ?_
  intro p e s m args below meth c s₁ Bd hml0 hP hK
  obtain ⟨rfl, hZ, hh⟩ := hP
  have hx := Bd.exec
  have hby := Bd.bytes
  have hml : c.maxLocals = 1 := hml0
  have hown : s.vm.findClass "com/example/tidebook/tidebook/book/Side" = some m.cls := findClass_of_methodNamed Bd.named
  have hnm := (name_of_methodNamed Bd.named Bd.method).1
  have X0 : Stand p l e ({ frames := 0, cells := 0, slots := 0, locals := 0 } : Room) s m #[(.ref wS)] below meth c s₁ [] 0 0 := Stand.of_body Bd
  have e0 : s₁.heap = h0 := by rw [← hh, Bd.state]; rfl
  have N0 := Fr.nil n0
  have pre0 : ∀ t, Steps p.tables e below (s₁.setTop (mkF m 0 #[.val (.ref wS)] [])) t → Steps p.tables e below (s₁.setTop (entryFrame m #[(.ref wS)] 1)) t := fun t k => castTop (ef_2 m wS) k
  have pre80 : ∀ t, Steps p.tables e below (s₁.setTop (mkF m 1 #[.val (.ref wS)] [(.ref wS)])) t → Steps p.tables e below (s₁.setTop (entryFrame m #[(.ref wS)] 1)) t := fun t k => by
    refine pre0 _ ?_
    show Steps p.tables e below (s₁.setTop (mkF m 0 #[.val (.ref wS)] [])) _
    refine XS.aloadN X0.here hx rfl (hb hby d2_0) rfl rfl ?_
    show Steps p.tables e below (s₁.setTop (mkF m 1 #[.val (.ref wS)] [(.ref wS)])) _
    exact k
  obtain ⟨T81, X81, e81, st81⟩ := getS2 X0 hx hZ hown (host := "") (Or.inl (hw _ (List.mem_of_getElem? (i := 8) rfl))) Via.refl e0 S_B (g := (mkF m 1 #[.val (.ref wS)] [(.ref wS)])) rfl (hb hby d2_1)
  have pre81 : ∀ t, Steps p.tables e below (T81.setTop (mkF m 4 #[.val (.ref wS)] [(.ref wB), (.ref wS)])) t → Steps p.tables e below (s₁.setTop (entryFrame m #[(.ref wS)] 1)) t := fun t k => pre80 _ (st81 t k)
  have pre83 : ∀ t, Steps p.tables e below (T81.setTop (mkF m 13 #[.val (.ref wS)] [])) t → Steps p.tables e below (s₁.setTop (entryFrame m #[(.ref wS)] 1)) t := fun t k => pre81 _ (Jvm.RoadKit.acmp (g := (mkF m 4 #[.val (.ref wS)] [(.ref wB), (.ref wS)])) X81 hx rfl rfl rfl (pc0 := 4) (pc' := 13) (same := false) rfl (hb hby d2_4) rfl (decide_eq_false fun q => hne (Value.ref.inj q)) (by decide) (by decide) k)
  obtain ⟨T85, X85, e85, st85⟩ := getS2 X81 hx hZ hown (host := "") (Or.inl (hw _ (List.mem_of_getElem? (i := 8) rfl))) Via.refl e81 S_B (g := (mkF m 13 #[.val (.ref wS)] [])) rfl (hb hby d2_13)
  have pre85 : ∀ t, Steps p.tables e below (T85.setTop (mkF m 16 #[.val (.ref wS)] [(.ref wB)])) t → Steps p.tables e below (s₁.setTop (entryFrame m #[(.ref wS)] 1)) t := fun t k => pre83 _ (st85 t k)
  obtain ⟨fs, hr, hrun, hended, hW, hsame⟩ := X85.leave (v := some (.ref wB)) (fun h => by rw [Bd.returns] at h; cases h)
  refine ⟨_, _, pre85 _ ?_, hrun, hended, _, _, rfl, ?_, ⟨_, rfl⟩, hW, hsame.mono (by decide) (by decide)⟩
  · show Steps p.tables e below (T85.setTop (mkF m 16 #[.val (.ref wS)] [(.ref wB)])) _
    jvm_step X85.here [X85.here.top, hx, (hb hby d2_16), X85.method', Bd.returns, Value.isRef, FieldType.isReference]
    first | (intro acts; rw [hr _ acts rfl rfl rfl]) | rw [hr _ _ rfl rfl rfl]
    exact Steps.refl _
  · show Q2_s wB h0 n0 _ T85.heap _
    rw [e85]
    exact ⟨rfl, N0, rfl⟩
def own_o (p q : Int64) (f : Int32) : Int64 := if ((f >>> ((1 : Int32) &&& 31)) &&& (3 : Int32)) = (0 : Int32) then q else if ((f >>> ((1 : Int32) &&& 31)) &&& (3 : Int32)) = (1 : Int32) then p else if ((f >>> ((1 : Int32) &&& 31)) &&& (3 : Int32)) = (2 : Int32) then (p + (1 : Int64)) else (p - (1 : Int64))
theorem pn_0 : plainName "com/example/tidebook/tidebook/book/SideIsMoreAggressivePinLaw" = true := by first | (simp [plainName, overriddenIn]; done) | decide +kernel
theorem ef_0 (m : MethodId) (x0 : Int64) (x1 : Int64) (x2 : Int32) : entryFrame m #[(.long x0), (.long x1), (.int x2)] maxLocals = mkF m 0 #[.val (.long x0), .second, .val (.long x1), .second, .val (.int x2), .unset, .unset, .unset, .unset, .unset, .unset, .unset, .unset, .unset, .unset] [] := by first | (simp [entryFrame, mkF, argsToLocals, Value.category, maxLocals]; done) | rfl
def Q0 (pv : Int64) (qv : Int64) (fv : Int32) (h0 : Heap) (n0 : Nat) (v : Option Value) (h : Heap) (L : List Loc) : Prop := v = some (.int (1 : Int32)) ∧ Fr n0 L
set_option maxRecDepth 65536 in
set_option maxHeartbeats 40000000 in
theorem rm0 (l : Launch) (Z : State) (aZ : Array Value) (hw : ∀ d ∈ tables_1, d.before aZ Z = true) (ws : List Jvm.Cond) (pv : Int64) (qv : Int64) (fv : Int32) (wB wS : Addr) (h0 : Heap) (n0 : Nat) (Z0 : n0 ≤ h0.size) (S_B : Sta Z h0 "com/example/tidebook/tidebook/book/Side" "BUY" "Lcom/example/tidebook/tidebook/book/Side;" (.ref wB)) (S_S : Sta Z h0 "com/example/tidebook/tidebook/book/Side" "SELL" "Lcom/example/tidebook/tidebook/book/Side;" (.ref wS)) (hne : wS ≠ wB) (E_B : Exa Z h0 wB "com/example/tidebook/tidebook/book/Side") (E_S : Exa Z h0 wS "com/example/tidebook/tidebook/book/Side") :
    MetFree l x (head1 (Jvm.Cond.code x code maxLocals ret :: ws) room_1) (fun a U => a = #[(.long pv), (.long qv), (.int fv)] ∧ Z.Warmed39 U.vm ∧ U.heap = h0) (fun _ _ _ _ _ => True) (fun _ U o U' => ∃ v L, o = .returned v ∧ Q0 pv qv fv h0 n0 v U'.heap L ∧ FrameEnd U o U' L room_1.cells room_1.slots) := by
  refine MetFree.of_bodySF (plainFor_of_name pn_0) hisR ?_
  intro p e s m args below meth c s₁ Bd hml0 hP hK
  obtain ⟨rfl, hZ, hh⟩ := hP
  have hx := Bd.exec
  have hby := Bd.bytes
  have hml : c.maxLocals = 15 := hml0
  have hown : s.vm.findClass "com/example/tidebook/tidebook/book/SideIsMoreAggressivePinLaw" = some m.cls := findClass_of_methodNamed Bd.named
  have hnm := (name_of_methodNamed Bd.named Bd.method).1
  have X0 : Stand p l e room_1 s m #[(.long pv), (.long qv), (.int fv)] below meth c s₁ [] 0 0 := Stand.of_body Bd
  have e0 : s₁.heap = h0 := by rw [← hh, Bd.state]; rfl
  have N0 := Fr.nil n0
  have pre0 : ∀ t, Steps p.tables e below (s₁.setTop (mkF m 0 #[.val (.long pv), .second, .val (.long qv), .second, .val (.int fv), .unset, .unset, .unset, .unset, .unset, .unset, .unset, .unset, .unset, .unset] [])) t → Steps p.tables e below (s₁.setTop (entryFrame m #[(.long pv), (.long qv), (.int fv)] maxLocals)) t := fun t k => castTop (ef_0 m pv qv fv) k
  have pre87 : ∀ t, Steps p.tables e below (s₁.setTop (mkF m 4 #[.val (.long pv), .second, .val (.long qv), .second, .val (.int fv), .unset, .unset, .unset, .unset, .unset, .unset, .unset, .unset, .unset, .unset] [(.int (fv &&& (1 : Int32)))])) t → Steps p.tables e below (s₁.setTop (entryFrame m #[(.long pv), (.long qv), (.int fv)] maxLocals)) t := fun t k => by
    refine pre0 _ ?_
    show Steps p.tables e below (s₁.setTop (mkF m 0 #[.val (.long pv), .second, .val (.long qv), .second, .val (.int fv), .unset, .unset, .unset, .unset, .unset, .unset, .unset, .unset, .unset, .unset] [])) _
    refine XS.iload X0.here hx rfl (hb hby at_0) rfl ?_
    show Steps p.tables e below (s₁.setTop (mkF m 2 #[.val (.long pv), .second, .val (.long qv), .second, .val (.int fv), .unset, .unset, .unset, .unset, .unset, .unset, .unset, .unset, .unset, .unset] [(.int fv)])) _
    refine XS.iconst X0.here hx rfl (hb hby at_2) ?_
    show Steps p.tables e below (s₁.setTop (mkF m 3 #[.val (.long pv), .second, .val (.long qv), .second, .val (.int fv), .unset, .unset, .unset, .unset, .unset, .unset, .unset, .unset, .unset, .unset] [(.int (1 : Int32)), (.int fv)])) _
    refine XS.iand X0.here hx rfl (hb hby at_3) rfl ?_
    show Steps p.tables e below (s₁.setTop (mkF m 4 #[.val (.long pv), .second, .val (.long qv), .second, .val (.int fv), .unset, .unset, .unset, .unset, .unset, .unset, .unset, .unset, .unset, .unset] [(.int (fv &&& (1 : Int32)))])) _
    exact k
  by_cases c88 : (fv &&& (1 : Int32)) = (0 : Int32)
  · have pre89 : ∀ t, Steps p.tables e below (s₁.setTop (mkF m 7 #[.val (.long pv), .second, .val (.long qv), .second, .val (.int fv), .unset, .unset, .unset, .unset, .unset, .unset, .unset, .unset, .unset, .unset] [])) t → Steps p.tables e below (s₁.setTop (entryFrame m #[(.long pv), (.long qv), (.int fv)] maxLocals)) t := fun t k => by
      refine pre87 _ ?_
      show Steps p.tables e below (s₁.setTop (mkF m 4 #[.val (.long pv), .second, .val (.long qv), .second, .val (.int fv), .unset, .unset, .unset, .unset, .unset, .unset, .unset, .unset, .unset, .unset] [(.int (fv &&& (1 : Int32)))])) _
      refine XS.ifNo X0.here hx rfl (hb hby at_4) rfl ((if0 _ _).trans (teq c88).2) ?_
      show Steps p.tables e below (s₁.setTop (mkF m 7 #[.val (.long pv), .second, .val (.long qv), .second, .val (.int fv), .unset, .unset, .unset, .unset, .unset, .unset, .unset, .unset, .unset, .unset] [])) _
      exact k
    obtain ⟨T91, X91, e91, st91⟩ := getS2 X0 hx hZ hown (host := "") (Or.inl (hw _ (List.mem_of_getElem? (i := 0) rfl))) Via.refl e0 S_B (g := (mkF m 7 #[.val (.long pv), .second, .val (.long qv), .second, .val (.int fv), .unset, .unset, .unset, .unset, .unset, .unset, .unset, .unset, .unset, .unset] [])) rfl (hb hby at_7)
    have pre91 : ∀ t, Steps p.tables e below (T91.setTop (mkF m 10 #[.val (.long pv), .second, .val (.long qv), .second, .val (.int fv), .unset, .unset, .unset, .unset, .unset, .unset, .unset, .unset, .unset, .unset] [(.ref wB)])) t → Steps p.tables e below (s₁.setTop (entryFrame m #[(.long pv), (.long qv), (.int fv)] maxLocals)) t := fun t k => pre89 _ (st91 t k)
    have pre92 : ∀ t, Steps p.tables e below (T91.setTop (mkF m 26 #[.val (.long pv), .second, .val (.long qv), .second, .val (.int fv), .val (.ref wB), .val (.int ((fv >>> ((1 : Int32) &&& 31)) &&& (3 : Int32))), .unset, .unset, .unset, .unset, .unset, .unset, .unset, .unset] [])) t → Steps p.tables e below (s₁.setTop (entryFrame m #[(.long pv), (.long qv), (.int fv)] maxLocals)) t := fun t k => by
      refine pre91 _ ?_
      show Steps p.tables e below (T91.setTop (mkF m 10 #[.val (.long pv), .second, .val (.long qv), .second, .val (.int fv), .unset, .unset, .unset, .unset, .unset, .unset, .unset, .unset, .unset, .unset] [(.ref wB)])) _
      refine XS.goto X91.here hx rfl (pc0 := 10) (pc' := 16) rfl (hb hby at_10) (by decide) (by decide) ?_
      show Steps p.tables e below (T91.setTop (mkF m 16 #[.val (.long pv), .second, .val (.long qv), .second, .val (.int fv), .unset, .unset, .unset, .unset, .unset, .unset, .unset, .unset, .unset, .unset] [(.ref wB)])) _
      refine XS.astore X91.here hx rfl (hb hby at_16) rfl rfl (l' := #[.val (.long pv), .second, .val (.long qv), .second, .val (.int fv), .val (.ref wB), .unset, .unset, .unset, .unset, .unset, .unset, .unset, .unset, .unset]) rfl ?_
      show Steps p.tables e below (T91.setTop (mkF m 18 #[.val (.long pv), .second, .val (.long qv), .second, .val (.int fv), .val (.ref wB), .unset, .unset, .unset, .unset, .unset, .unset, .unset, .unset, .unset] [])) _
      refine XS.iload X91.here hx rfl (hb hby at_18) rfl ?_
      show Steps p.tables e below (T91.setTop (mkF m 20 #[.val (.long pv), .second, .val (.long qv), .second, .val (.int fv), .val (.ref wB), .unset, .unset, .unset, .unset, .unset, .unset, .unset, .unset, .unset] [(.int fv)])) _
      refine XS.iconst X91.here hx rfl (hb hby at_20) ?_
      show Steps p.tables e below (T91.setTop (mkF m 21 #[.val (.long pv), .second, .val (.long qv), .second, .val (.int fv), .val (.ref wB), .unset, .unset, .unset, .unset, .unset, .unset, .unset, .unset, .unset] [(.int (1 : Int32)), (.int fv)])) _
      refine XS.ishr X91.here hx rfl (hb hby at_21) rfl ?_
      show Steps p.tables e below (T91.setTop (mkF m 22 #[.val (.long pv), .second, .val (.long qv), .second, .val (.int fv), .val (.ref wB), .unset, .unset, .unset, .unset, .unset, .unset, .unset, .unset, .unset] [(.int (fv >>> ((1 : Int32) &&& 31)))])) _
      refine XS.iconst X91.here hx rfl (hb hby at_22) ?_
      show Steps p.tables e below (T91.setTop (mkF m 23 #[.val (.long pv), .second, .val (.long qv), .second, .val (.int fv), .val (.ref wB), .unset, .unset, .unset, .unset, .unset, .unset, .unset, .unset, .unset] [(.int (3 : Int32)), (.int (fv >>> ((1 : Int32) &&& 31)))])) _
      refine XS.iand X91.here hx rfl (hb hby at_23) rfl ?_
      show Steps p.tables e below (T91.setTop (mkF m 24 #[.val (.long pv), .second, .val (.long qv), .second, .val (.int fv), .val (.ref wB), .unset, .unset, .unset, .unset, .unset, .unset, .unset, .unset, .unset] [(.int ((fv >>> ((1 : Int32) &&& 31)) &&& (3 : Int32)))])) _
      refine XS.istore X91.here hx rfl (hb hby at_24) rfl (l' := #[.val (.long pv), .second, .val (.long qv), .second, .val (.int fv), .val (.ref wB), .val (.int ((fv >>> ((1 : Int32) &&& 31)) &&& (3 : Int32))), .unset, .unset, .unset, .unset, .unset, .unset, .unset, .unset]) rfl ?_
      show Steps p.tables e below (T91.setTop (mkF m 26 #[.val (.long pv), .second, .val (.long qv), .second, .val (.int fv), .val (.ref wB), .val (.int ((fv >>> ((1 : Int32) &&& 31)) &&& (3 : Int32))), .unset, .unset, .unset, .unset, .unset, .unset, .unset, .unset] [])) _
      exact k
    have pre93 : ∀ t, Steps p.tables e below (T91.setTop (mkF m 68 #[.val (.long pv), .second, .val (.long qv), .second, .val (.int fv), .val (.ref wB), .val (.int ((fv >>> ((1 : Int32) &&& 31)) &&& (3 : Int32))), .val (.long (own_o pv qv fv)), .second, .unset, .unset, .unset, .unset, .unset, .unset] [])) t → Steps p.tables e below (s₁.setTop (entryFrame m #[(.long pv), (.long qv), (.int fv)] maxLocals)) t := fun t k => by
      refine pre92 _ ?_
      show Steps p.tables e below (T91.setTop (mkF m 26 #[.val (.long pv), .second, .val (.long qv), .second, .val (.int fv), .val (.ref wB), .val (.int ((fv >>> ((1 : Int32) &&& 31)) &&& (3 : Int32))), .unset, .unset, .unset, .unset, .unset, .unset, .unset, .unset] [])) _
      refine XS.iload X91.here hx rfl (hb hby at_26) rfl ?_
      show Steps p.tables e below (T91.setTop (mkF m 28 #[.val (.long pv), .second, .val (.long qv), .second, .val (.int fv), .val (.ref wB), .val (.int ((fv >>> ((1 : Int32) &&& 31)) &&& (3 : Int32))), .unset, .unset, .unset, .unset, .unset, .unset, .unset, .unset] [(.int ((fv >>> ((1 : Int32) &&& 31)) &&& (3 : Int32)))])) _
      by_cases c94 : ((fv >>> ((1 : Int32) &&& 31)) &&& (3 : Int32)) = (0 : Int32)
      · refine XS.ifNo X91.here hx rfl (hb hby at_28) rfl ((if0 _ _).trans (teq c94).2) ?_
        show Steps p.tables e below (T91.setTop (mkF m 31 #[.val (.long pv), .second, .val (.long qv), .second, .val (.int fv), .val (.ref wB), .val (.int ((fv >>> ((1 : Int32) &&& 31)) &&& (3 : Int32))), .unset, .unset, .unset, .unset, .unset, .unset, .unset, .unset] [])) _
        refine XS.lloadN X91.here hx rfl (hb hby at_31) rfl ?_
        show Steps p.tables e below (T91.setTop (mkF m 32 #[.val (.long pv), .second, .val (.long qv), .second, .val (.int fv), .val (.ref wB), .val (.int ((fv >>> ((1 : Int32) &&& 31)) &&& (3 : Int32))), .unset, .unset, .unset, .unset, .unset, .unset, .unset, .unset] [(.long qv)])) _
        refine XS.lstore X91.here hx rfl (hb hby at_32) rfl (l' := #[.val (.long pv), .second, .val (.long qv), .second, .val (.int fv), .val (.ref wB), .val (.int ((fv >>> ((1 : Int32) &&& 31)) &&& (3 : Int32))), .val (.long qv), .second, .unset, .unset, .unset, .unset, .unset, .unset]) rfl ?_
        show Steps p.tables e below (T91.setTop (mkF m 34 #[.val (.long pv), .second, .val (.long qv), .second, .val (.int fv), .val (.ref wB), .val (.int ((fv >>> ((1 : Int32) &&& 31)) &&& (3 : Int32))), .val (.long qv), .second, .unset, .unset, .unset, .unset, .unset, .unset] [])) _
        refine XS.goto X91.here hx rfl (pc0 := 34) (pc' := 68) rfl (hb hby at_34) (by decide) (by decide) ?_
        show Steps p.tables e below (T91.setTop (mkF m 68 #[.val (.long pv), .second, .val (.long qv), .second, .val (.int fv), .val (.ref wB), .val (.int ((fv >>> ((1 : Int32) &&& 31)) &&& (3 : Int32))), .val (.long qv), .second, .unset, .unset, .unset, .unset, .unset, .unset] [])) _
        have hv : own_o pv qv fv = qv := by unfold own_o; rw [if_pos c94]
        rw [hv] at k
        exact k
      · refine XS.ifYes X91.here hx rfl (pc0 := 28) (pc' := 37) rfl (hb hby at_28) rfl ((if0 _ _).trans (feq c94).2) (by decide) (by decide) ?_
        show Steps p.tables e below (T91.setTop (mkF m 37 #[.val (.long pv), .second, .val (.long qv), .second, .val (.int fv), .val (.ref wB), .val (.int ((fv >>> ((1 : Int32) &&& 31)) &&& (3 : Int32))), .unset, .unset, .unset, .unset, .unset, .unset, .unset, .unset] [])) _
        refine XS.iload X91.here hx rfl (hb hby at_37) rfl ?_
        show Steps p.tables e below (T91.setTop (mkF m 39 #[.val (.long pv), .second, .val (.long qv), .second, .val (.int fv), .val (.ref wB), .val (.int ((fv >>> ((1 : Int32) &&& 31)) &&& (3 : Int32))), .unset, .unset, .unset, .unset, .unset, .unset, .unset, .unset] [(.int ((fv >>> ((1 : Int32) &&& 31)) &&& (3 : Int32)))])) _
        refine XS.iconst X91.here hx rfl (hb hby at_39) ?_
        show Steps p.tables e below (T91.setTop (mkF m 40 #[.val (.long pv), .second, .val (.long qv), .second, .val (.int fv), .val (.ref wB), .val (.int ((fv >>> ((1 : Int32) &&& 31)) &&& (3 : Int32))), .unset, .unset, .unset, .unset, .unset, .unset, .unset, .unset] [(.int (1 : Int32)), (.int ((fv >>> ((1 : Int32) &&& 31)) &&& (3 : Int32)))])) _
        by_cases c95 : ((fv >>> ((1 : Int32) &&& 31)) &&& (3 : Int32)) = (1 : Int32)
        · refine XS.icmpNo X91.here hx rfl (hb hby at_40) rfl (teq c95).2 ?_
          show Steps p.tables e below (T91.setTop (mkF m 43 #[.val (.long pv), .second, .val (.long qv), .second, .val (.int fv), .val (.ref wB), .val (.int ((fv >>> ((1 : Int32) &&& 31)) &&& (3 : Int32))), .unset, .unset, .unset, .unset, .unset, .unset, .unset, .unset] [])) _
          refine XS.lloadN X91.here hx rfl (hb hby at_43) rfl ?_
          show Steps p.tables e below (T91.setTop (mkF m 44 #[.val (.long pv), .second, .val (.long qv), .second, .val (.int fv), .val (.ref wB), .val (.int ((fv >>> ((1 : Int32) &&& 31)) &&& (3 : Int32))), .unset, .unset, .unset, .unset, .unset, .unset, .unset, .unset] [(.long pv)])) _
          refine XS.lstore X91.here hx rfl (hb hby at_44) rfl (l' := #[.val (.long pv), .second, .val (.long qv), .second, .val (.int fv), .val (.ref wB), .val (.int ((fv >>> ((1 : Int32) &&& 31)) &&& (3 : Int32))), .val (.long pv), .second, .unset, .unset, .unset, .unset, .unset, .unset]) rfl ?_
          show Steps p.tables e below (T91.setTop (mkF m 46 #[.val (.long pv), .second, .val (.long qv), .second, .val (.int fv), .val (.ref wB), .val (.int ((fv >>> ((1 : Int32) &&& 31)) &&& (3 : Int32))), .val (.long pv), .second, .unset, .unset, .unset, .unset, .unset, .unset] [])) _
          refine XS.goto X91.here hx rfl (pc0 := 46) (pc' := 68) rfl (hb hby at_46) (by decide) (by decide) ?_
          show Steps p.tables e below (T91.setTop (mkF m 68 #[.val (.long pv), .second, .val (.long qv), .second, .val (.int fv), .val (.ref wB), .val (.int ((fv >>> ((1 : Int32) &&& 31)) &&& (3 : Int32))), .val (.long pv), .second, .unset, .unset, .unset, .unset, .unset, .unset] [])) _
          have hv : own_o pv qv fv = pv := by unfold own_o; rw [if_neg c94, if_pos c95]
          rw [hv] at k
          exact k
        · refine XS.icmpYes X91.here hx rfl (pc0 := 40) (pc' := 49) rfl (hb hby at_40) rfl (feq c95).2 (by decide) (by decide) ?_
          show Steps p.tables e below (T91.setTop (mkF m 49 #[.val (.long pv), .second, .val (.long qv), .second, .val (.int fv), .val (.ref wB), .val (.int ((fv >>> ((1 : Int32) &&& 31)) &&& (3 : Int32))), .unset, .unset, .unset, .unset, .unset, .unset, .unset, .unset] [])) _
          refine XS.iload X91.here hx rfl (hb hby at_49) rfl ?_
          show Steps p.tables e below (T91.setTop (mkF m 51 #[.val (.long pv), .second, .val (.long qv), .second, .val (.int fv), .val (.ref wB), .val (.int ((fv >>> ((1 : Int32) &&& 31)) &&& (3 : Int32))), .unset, .unset, .unset, .unset, .unset, .unset, .unset, .unset] [(.int ((fv >>> ((1 : Int32) &&& 31)) &&& (3 : Int32)))])) _
          refine XS.iconst X91.here hx rfl (hb hby at_51) ?_
          show Steps p.tables e below (T91.setTop (mkF m 52 #[.val (.long pv), .second, .val (.long qv), .second, .val (.int fv), .val (.ref wB), .val (.int ((fv >>> ((1 : Int32) &&& 31)) &&& (3 : Int32))), .unset, .unset, .unset, .unset, .unset, .unset, .unset, .unset] [(.int (2 : Int32)), (.int ((fv >>> ((1 : Int32) &&& 31)) &&& (3 : Int32)))])) _
          by_cases c96 : ((fv >>> ((1 : Int32) &&& 31)) &&& (3 : Int32)) = (2 : Int32)
          · refine XS.icmpNo X91.here hx rfl (hb hby at_52) rfl (teq c96).2 ?_
            show Steps p.tables e below (T91.setTop (mkF m 55 #[.val (.long pv), .second, .val (.long qv), .second, .val (.int fv), .val (.ref wB), .val (.int ((fv >>> ((1 : Int32) &&& 31)) &&& (3 : Int32))), .unset, .unset, .unset, .unset, .unset, .unset, .unset, .unset] [])) _
            refine XS.lloadN X91.here hx rfl (hb hby at_55) rfl ?_
            show Steps p.tables e below (T91.setTop (mkF m 56 #[.val (.long pv), .second, .val (.long qv), .second, .val (.int fv), .val (.ref wB), .val (.int ((fv >>> ((1 : Int32) &&& 31)) &&& (3 : Int32))), .unset, .unset, .unset, .unset, .unset, .unset, .unset, .unset] [(.long pv)])) _
            refine XS.lconst X91.here hx rfl (hb hby at_56) ?_
            show Steps p.tables e below (T91.setTop (mkF m 57 #[.val (.long pv), .second, .val (.long qv), .second, .val (.int fv), .val (.ref wB), .val (.int ((fv >>> ((1 : Int32) &&& 31)) &&& (3 : Int32))), .unset, .unset, .unset, .unset, .unset, .unset, .unset, .unset] [(.long (1 : Int64)), (.long pv)])) _
            refine XS.ladd X91.here hx rfl (hb hby at_57) rfl ?_
            show Steps p.tables e below (T91.setTop (mkF m 58 #[.val (.long pv), .second, .val (.long qv), .second, .val (.int fv), .val (.ref wB), .val (.int ((fv >>> ((1 : Int32) &&& 31)) &&& (3 : Int32))), .unset, .unset, .unset, .unset, .unset, .unset, .unset, .unset] [(.long (pv + (1 : Int64)))])) _
            refine XS.lstore X91.here hx rfl (hb hby at_58) rfl (l' := #[.val (.long pv), .second, .val (.long qv), .second, .val (.int fv), .val (.ref wB), .val (.int ((fv >>> ((1 : Int32) &&& 31)) &&& (3 : Int32))), .val (.long (pv + (1 : Int64))), .second, .unset, .unset, .unset, .unset, .unset, .unset]) rfl ?_
            show Steps p.tables e below (T91.setTop (mkF m 60 #[.val (.long pv), .second, .val (.long qv), .second, .val (.int fv), .val (.ref wB), .val (.int ((fv >>> ((1 : Int32) &&& 31)) &&& (3 : Int32))), .val (.long (pv + (1 : Int64))), .second, .unset, .unset, .unset, .unset, .unset, .unset] [])) _
            refine XS.goto X91.here hx rfl (pc0 := 60) (pc' := 68) rfl (hb hby at_60) (by decide) (by decide) ?_
            show Steps p.tables e below (T91.setTop (mkF m 68 #[.val (.long pv), .second, .val (.long qv), .second, .val (.int fv), .val (.ref wB), .val (.int ((fv >>> ((1 : Int32) &&& 31)) &&& (3 : Int32))), .val (.long (pv + (1 : Int64))), .second, .unset, .unset, .unset, .unset, .unset, .unset] [])) _
            have hv : own_o pv qv fv = (pv + (1 : Int64)) := by unfold own_o; rw [if_neg c94, if_neg c95, if_pos c96]
            rw [hv] at k
            exact k
          · refine XS.icmpYes X91.here hx rfl (pc0 := 52) (pc' := 63) rfl (hb hby at_52) rfl (feq c96).2 (by decide) (by decide) ?_
            show Steps p.tables e below (T91.setTop (mkF m 63 #[.val (.long pv), .second, .val (.long qv), .second, .val (.int fv), .val (.ref wB), .val (.int ((fv >>> ((1 : Int32) &&& 31)) &&& (3 : Int32))), .unset, .unset, .unset, .unset, .unset, .unset, .unset, .unset] [])) _
            refine XS.lloadN X91.here hx rfl (hb hby at_63) rfl ?_
            show Steps p.tables e below (T91.setTop (mkF m 64 #[.val (.long pv), .second, .val (.long qv), .second, .val (.int fv), .val (.ref wB), .val (.int ((fv >>> ((1 : Int32) &&& 31)) &&& (3 : Int32))), .unset, .unset, .unset, .unset, .unset, .unset, .unset, .unset] [(.long pv)])) _
            refine XS.lconst X91.here hx rfl (hb hby at_64) ?_
            show Steps p.tables e below (T91.setTop (mkF m 65 #[.val (.long pv), .second, .val (.long qv), .second, .val (.int fv), .val (.ref wB), .val (.int ((fv >>> ((1 : Int32) &&& 31)) &&& (3 : Int32))), .unset, .unset, .unset, .unset, .unset, .unset, .unset, .unset] [(.long (1 : Int64)), (.long pv)])) _
            refine XS.lsub X91.here hx rfl (hb hby at_65) rfl ?_
            show Steps p.tables e below (T91.setTop (mkF m 66 #[.val (.long pv), .second, .val (.long qv), .second, .val (.int fv), .val (.ref wB), .val (.int ((fv >>> ((1 : Int32) &&& 31)) &&& (3 : Int32))), .unset, .unset, .unset, .unset, .unset, .unset, .unset, .unset] [(.long (pv - (1 : Int64)))])) _
            refine XS.lstore X91.here hx rfl (hb hby at_66) rfl (l' := #[.val (.long pv), .second, .val (.long qv), .second, .val (.int fv), .val (.ref wB), .val (.int ((fv >>> ((1 : Int32) &&& 31)) &&& (3 : Int32))), .val (.long (pv - (1 : Int64))), .second, .unset, .unset, .unset, .unset, .unset, .unset]) rfl ?_
            show Steps p.tables e below (T91.setTop (mkF m 68 #[.val (.long pv), .second, .val (.long qv), .second, .val (.int fv), .val (.ref wB), .val (.int ((fv >>> ((1 : Int32) &&& 31)) &&& (3 : Int32))), .val (.long (pv - (1 : Int64))), .second, .unset, .unset, .unset, .unset, .unset, .unset] [])) _
            have hv : own_o pv qv fv = (pv - (1 : Int64)) := by unfold own_o; rw [if_neg c94, if_neg c95, if_neg c96]
            rw [hv] at k
            exact k
    obtain ⟨ov, e_ov⟩ : ∃ z : Int64, z = (own_o pv qv fv) := ⟨_, rfl⟩
    have pre97 : ∀ t, Steps p.tables e below (T91.setTop (mkF m 68 #[.val (.long pv), .second, .val (.long qv), .second, .val (.int fv), .val (.ref wB), .val (.int ((fv >>> ((1 : Int32) &&& 31)) &&& (3 : Int32))), .val (.long ov), .second, .unset, .unset, .unset, .unset, .unset, .unset] [])) t → Steps p.tables e below (s₁.setTop (entryFrame m #[(.long pv), (.long qv), (.int fv)] maxLocals)) t := by rw [e_ov]; exact pre93
    have pre98 : ∀ t, Steps p.tables e below (T91.setTop (mkF m 73 #[.val (.long pv), .second, .val (.long qv), .second, .val (.int fv), .val (.ref wB), .val (.int ((fv >>> ((1 : Int32) &&& 31)) &&& (3 : Int32))), .val (.long ov), .second, .unset, .unset, .unset, .unset, .unset, .unset] [(.long ov), (.long pv), (.ref wB)])) t → Steps p.tables e below (s₁.setTop (entryFrame m #[(.long pv), (.long qv), (.int fv)] maxLocals)) t := fun t k => by
      refine pre97 _ ?_
      show Steps p.tables e below (T91.setTop (mkF m 68 #[.val (.long pv), .second, .val (.long qv), .second, .val (.int fv), .val (.ref wB), .val (.int ((fv >>> ((1 : Int32) &&& 31)) &&& (3 : Int32))), .val (.long ov), .second, .unset, .unset, .unset, .unset, .unset, .unset] [])) _
      refine XS.aload X91.here hx rfl (hb hby at_68) rfl rfl ?_
      show Steps p.tables e below (T91.setTop (mkF m 70 #[.val (.long pv), .second, .val (.long qv), .second, .val (.int fv), .val (.ref wB), .val (.int ((fv >>> ((1 : Int32) &&& 31)) &&& (3 : Int32))), .val (.long ov), .second, .unset, .unset, .unset, .unset, .unset, .unset] [(.ref wB)])) _
      refine XS.lloadN X91.here hx rfl (hb hby at_70) rfl ?_
      show Steps p.tables e below (T91.setTop (mkF m 71 #[.val (.long pv), .second, .val (.long qv), .second, .val (.int fv), .val (.ref wB), .val (.int ((fv >>> ((1 : Int32) &&& 31)) &&& (3 : Int32))), .val (.long ov), .second, .unset, .unset, .unset, .unset, .unset, .unset] [(.long pv), (.ref wB)])) _
      refine XS.lload X91.here hx rfl (hb hby at_71) rfl ?_
      show Steps p.tables e below (T91.setTop (mkF m 73 #[.val (.long pv), .second, .val (.long qv), .second, .val (.int fv), .val (.ref wB), .val (.int ((fv >>> ((1 : Int32) &&& 31)) &&& (3 : Int32))), .val (.long ov), .second, .unset, .unset, .unset, .unset, .unset, .unset] [(.long ov), (.long pv), (.ref wB)])) _
      exact k
    obtain ⟨cq99, kq99, q99a, q99b, q99c⟩ := isOf hZ e91 E_B
    obtain ⟨_, _, ⟨T99, L99, k99, n99⟩, -, X99, ⟨Lc99, hQ99, l99, y99, z99⟩, st99⟩ := X91.virtualBack hx (y := (⟨"com/example/tidebook/tidebook/book/Side", "isMoreAggressive", "(JJ)Z"⟩ : MethodName)) (z := (⟨"com/example/tidebook/tidebook/book/Side", "isMoreAggressive", "(JJ)Z"⟩ : MethodName)) hown (mvT hZ (hw _ (List.mem_of_getElem? (i := 3) rfl))) (mvT hZ (hw _ (List.mem_of_getElem? (i := 4) rfl))) (notFace_of_selects (args := #[]) (mvT hZ (hw _ (List.mem_of_getElem? (i := 6) rfl)))) (mvT hZ (hw _ (List.mem_of_getElem? (i := 6) rfl))) (mvT hZ (hw _ (List.mem_of_getElem? (i := 5) rfl))) (by decide) (backOf (W := 0) (rm1_b l Z aZ hw [] wB pv ov wS h0 n0 Z0 S_B S_S hne) hZ (hw _ (List.mem_of_getElem? (i := 7) rfl)) (hw _ (List.mem_of_getElem? (i := 1) rfl)) (by decide) (by decide)) q99a q99c (g := (mkF m 73 #[.val (.long pv), .second, .val (.long qv), .second, .val (.int fv), .val (.ref wB), .val (.int ((fv >>> ((1 : Int32) &&& 31)) &&& (3 : Int32))), .val (.long ov), .second, .unset, .unset, .unset, .unset, .unset, .unset] [(.long ov), (.long pv), (.ref wB)])) rfl (by rw [hml]; rfl) (Steps.refl _) (argsL := [(.long pv), (.long ov)]) (rest := []) (lenOf pd_0 rfl) rfl (by show 2 * 0 + _ ≤ _; exact Nat.le_of_eq rfl) (hb hby at_73) (fun _ _ => ⟨rfl, e91, (by decide : 0 + 0 ≤ _), (by decide : 0 + 0 ≤ _)⟩)
    dsimp only [Pt.U, Pt.locs, Pt.cells, Pt.slots] at X99 l99 y99 z99 st99 hQ99
    subst l99 y99 z99
    obtain ⟨rfl, N99q, e99⟩ := hQ99
    have N99 := Fr.app N0 N99q
    have pre99 : ∀ t, Steps p.tables e below (T99.setTop (mkF m 76 #[.val (.long pv), .second, .val (.long qv), .second, .val (.int fv), .val (.ref wB), .val (.int ((fv >>> ((1 : Int32) &&& 31)) &&& (3 : Int32))), .val (.long ov), .second, .unset, .unset, .unset, .unset, .unset, .unset] [(.int (own_ma_b pv ov))])) t → Steps p.tables e below (s₁.setTop (entryFrame m #[(.long pv), (.long qv), (.int fv)] maxLocals)) t := fun t k => pre98 _ (st99.trans k)
    have pre100 : ∀ t, Steps p.tables e below (T99.setTop (mkF m 83 #[.val (.long pv), .second, .val (.long qv), .second, .val (.int fv), .val (.ref wB), .val (.int ((fv >>> ((1 : Int32) &&& 31)) &&& (3 : Int32))), .val (.long ov), .second, .val (.int (own_ma_b pv ov)), .unset, .unset, .unset, .unset, .unset] [(.long pv), (.long ov), (.ref wB)])) t → Steps p.tables e below (s₁.setTop (entryFrame m #[(.long pv), (.long qv), (.int fv)] maxLocals)) t := fun t k => by
      refine pre99 _ ?_
      show Steps p.tables e below (T99.setTop (mkF m 76 #[.val (.long pv), .second, .val (.long qv), .second, .val (.int fv), .val (.ref wB), .val (.int ((fv >>> ((1 : Int32) &&& 31)) &&& (3 : Int32))), .val (.long ov), .second, .unset, .unset, .unset, .unset, .unset, .unset] [(.int (own_ma_b pv ov))])) _
      refine XS.istore X99.here hx rfl (hb hby at_76) rfl (l' := #[.val (.long pv), .second, .val (.long qv), .second, .val (.int fv), .val (.ref wB), .val (.int ((fv >>> ((1 : Int32) &&& 31)) &&& (3 : Int32))), .val (.long ov), .second, .val (.int (own_ma_b pv ov)), .unset, .unset, .unset, .unset, .unset]) rfl ?_
      show Steps p.tables e below (T99.setTop (mkF m 78 #[.val (.long pv), .second, .val (.long qv), .second, .val (.int fv), .val (.ref wB), .val (.int ((fv >>> ((1 : Int32) &&& 31)) &&& (3 : Int32))), .val (.long ov), .second, .val (.int (own_ma_b pv ov)), .unset, .unset, .unset, .unset, .unset] [])) _
      refine XS.aload X99.here hx rfl (hb hby at_78) rfl rfl ?_
      show Steps p.tables e below (T99.setTop (mkF m 80 #[.val (.long pv), .second, .val (.long qv), .second, .val (.int fv), .val (.ref wB), .val (.int ((fv >>> ((1 : Int32) &&& 31)) &&& (3 : Int32))), .val (.long ov), .second, .val (.int (own_ma_b pv ov)), .unset, .unset, .unset, .unset, .unset] [(.ref wB)])) _
      refine XS.lload X99.here hx rfl (hb hby at_80) rfl ?_
      show Steps p.tables e below (T99.setTop (mkF m 82 #[.val (.long pv), .second, .val (.long qv), .second, .val (.int fv), .val (.ref wB), .val (.int ((fv >>> ((1 : Int32) &&& 31)) &&& (3 : Int32))), .val (.long ov), .second, .val (.int (own_ma_b pv ov)), .unset, .unset, .unset, .unset, .unset] [(.long ov), (.ref wB)])) _
      refine XS.lloadN X99.here hx rfl (hb hby at_82) rfl ?_
      show Steps p.tables e below (T99.setTop (mkF m 83 #[.val (.long pv), .second, .val (.long qv), .second, .val (.int fv), .val (.ref wB), .val (.int ((fv >>> ((1 : Int32) &&& 31)) &&& (3 : Int32))), .val (.long ov), .second, .val (.int (own_ma_b pv ov)), .unset, .unset, .unset, .unset, .unset] [(.long pv), (.long ov), (.ref wB)])) _
      exact k
    obtain ⟨cq101, kq101, q101a, q101b, q101c⟩ := isOf hZ e99 E_B
    obtain ⟨_, _, ⟨T101, L101, k101, n101⟩, -, X101, ⟨Lc101, hQ101, l101, y101, z101⟩, st101⟩ := X99.virtualBack hx (y := (⟨"com/example/tidebook/tidebook/book/Side", "isMoreAggressive", "(JJ)Z"⟩ : MethodName)) (z := (⟨"com/example/tidebook/tidebook/book/Side", "isMoreAggressive", "(JJ)Z"⟩ : MethodName)) hown (mvT hZ (hw _ (List.mem_of_getElem? (i := 3) rfl))) (mvT hZ (hw _ (List.mem_of_getElem? (i := 4) rfl))) (notFace_of_selects (args := #[]) (mvT hZ (hw _ (List.mem_of_getElem? (i := 6) rfl)))) (mvT hZ (hw _ (List.mem_of_getElem? (i := 6) rfl))) (mvT hZ (hw _ (List.mem_of_getElem? (i := 5) rfl))) (by decide) (backOf (W := 0) (rm1_b l Z aZ hw [] wB ov pv wS h0 n0 Z0 S_B S_S hne) hZ (hw _ (List.mem_of_getElem? (i := 7) rfl)) (hw _ (List.mem_of_getElem? (i := 1) rfl)) (by decide) (by decide)) q101a q101c (g := (mkF m 83 #[.val (.long pv), .second, .val (.long qv), .second, .val (.int fv), .val (.ref wB), .val (.int ((fv >>> ((1 : Int32) &&& 31)) &&& (3 : Int32))), .val (.long ov), .second, .val (.int (own_ma_b pv ov)), .unset, .unset, .unset, .unset, .unset] [(.long pv), (.long ov), (.ref wB)])) rfl (by rw [hml]; rfl) (Steps.refl _) (argsL := [(.long ov), (.long pv)]) (rest := []) (lenOf pd_0 rfl) rfl (by show 2 * 0 + _ ≤ _; exact Nat.le_of_eq rfl) (hb hby at_83) (fun _ _ => ⟨rfl, e99, (by decide : 0 + 0 ≤ _), (by decide : 0 + 0 ≤ _)⟩)
    dsimp only [Pt.U, Pt.locs, Pt.cells, Pt.slots] at X101 l101 y101 z101 st101 hQ101
    subst l101 y101 z101
    obtain ⟨rfl, N101q, e101⟩ := hQ101
    have N101 := Fr.app N99 N101q
    have pre101 : ∀ t, Steps p.tables e below (T101.setTop (mkF m 86 #[.val (.long pv), .second, .val (.long qv), .second, .val (.int fv), .val (.ref wB), .val (.int ((fv >>> ((1 : Int32) &&& 31)) &&& (3 : Int32))), .val (.long ov), .second, .val (.int (own_ma_b pv ov)), .unset, .unset, .unset, .unset, .unset] [(.int (own_ma_b ov pv))])) t → Steps p.tables e below (s₁.setTop (entryFrame m #[(.long pv), (.long qv), (.int fv)] maxLocals)) t := fun t k => pre100 _ (st101.trans k)
    have pre102 : ∀ t, Steps p.tables e below (T101.setTop (mkF m 90 #[.val (.long pv), .second, .val (.long qv), .second, .val (.int fv), .val (.ref wB), .val (.int ((fv >>> ((1 : Int32) &&& 31)) &&& (3 : Int32))), .val (.long ov), .second, .val (.int (own_ma_b pv ov)), .val (.int (own_ma_b ov pv)), .unset, .unset, .unset, .unset] [(.ref wB)])) t → Steps p.tables e below (s₁.setTop (entryFrame m #[(.long pv), (.long qv), (.int fv)] maxLocals)) t := fun t k => by
      refine pre101 _ ?_
      show Steps p.tables e below (T101.setTop (mkF m 86 #[.val (.long pv), .second, .val (.long qv), .second, .val (.int fv), .val (.ref wB), .val (.int ((fv >>> ((1 : Int32) &&& 31)) &&& (3 : Int32))), .val (.long ov), .second, .val (.int (own_ma_b pv ov)), .unset, .unset, .unset, .unset, .unset] [(.int (own_ma_b ov pv))])) _
      refine XS.istore X101.here hx rfl (hb hby at_86) rfl (l' := #[.val (.long pv), .second, .val (.long qv), .second, .val (.int fv), .val (.ref wB), .val (.int ((fv >>> ((1 : Int32) &&& 31)) &&& (3 : Int32))), .val (.long ov), .second, .val (.int (own_ma_b pv ov)), .val (.int (own_ma_b ov pv)), .unset, .unset, .unset, .unset]) rfl ?_
      show Steps p.tables e below (T101.setTop (mkF m 88 #[.val (.long pv), .second, .val (.long qv), .second, .val (.int fv), .val (.ref wB), .val (.int ((fv >>> ((1 : Int32) &&& 31)) &&& (3 : Int32))), .val (.long ov), .second, .val (.int (own_ma_b pv ov)), .val (.int (own_ma_b ov pv)), .unset, .unset, .unset, .unset] [])) _
      refine XS.aload X101.here hx rfl (hb hby at_88) rfl rfl ?_
      show Steps p.tables e below (T101.setTop (mkF m 90 #[.val (.long pv), .second, .val (.long qv), .second, .val (.int fv), .val (.ref wB), .val (.int ((fv >>> ((1 : Int32) &&& 31)) &&& (3 : Int32))), .val (.long ov), .second, .val (.int (own_ma_b pv ov)), .val (.int (own_ma_b ov pv)), .unset, .unset, .unset, .unset] [(.ref wB)])) _
      exact k
    obtain ⟨cq103, kq103, q103a, q103b, q103c⟩ := isOf hZ e101 E_B
    obtain ⟨_, _, ⟨T103, L103, k103, n103⟩, -, X103, ⟨Lc103, hQ103, l103, y103, z103⟩, st103⟩ := X101.virtualBack hx (y := (⟨"com/example/tidebook/tidebook/book/Side", "opposite", "()Lcom/example/tidebook/tidebook/book/Side;"⟩ : MethodName)) (z := (⟨"com/example/tidebook/tidebook/book/Side", "opposite", "()Lcom/example/tidebook/tidebook/book/Side;"⟩ : MethodName)) hown (mvT hZ (hw _ (List.mem_of_getElem? (i := 9) rfl))) (mvT hZ (hw _ (List.mem_of_getElem? (i := 10) rfl))) (notFace_of_selects (args := #[]) (mvT hZ (hw _ (List.mem_of_getElem? (i := 12) rfl)))) (mvT hZ (hw _ (List.mem_of_getElem? (i := 12) rfl))) (mvT hZ (hw _ (List.mem_of_getElem? (i := 11) rfl))) (by decide) (backOf (W := 0) (rm2_b l Z aZ hw [] wB wS h0 n0 Z0 S_B S_S hne) hZ (hw _ (List.mem_of_getElem? (i := 13) rfl)) (hw _ (List.mem_of_getElem? (i := 1) rfl)) (by decide) (by decide)) q103a q103c (g := (mkF m 90 #[.val (.long pv), .second, .val (.long qv), .second, .val (.int fv), .val (.ref wB), .val (.int ((fv >>> ((1 : Int32) &&& 31)) &&& (3 : Int32))), .val (.long ov), .second, .val (.int (own_ma_b pv ov)), .val (.int (own_ma_b ov pv)), .unset, .unset, .unset, .unset] [(.ref wB)])) rfl (by rw [hml]; rfl) (Steps.refl _) (argsL := []) (rest := []) (lenOf pd_1 rfl) rfl (by show 2 * 0 + _ ≤ _; exact Nat.le_of_eq rfl) (hb hby at_90) (fun _ _ => ⟨rfl, e101, (by decide : 0 + 0 ≤ _), (by decide : 0 + 0 ≤ _)⟩)
    dsimp only [Pt.U, Pt.locs, Pt.cells, Pt.slots] at X103 l103 y103 z103 st103 hQ103
    subst l103 y103 z103
    obtain ⟨rfl, N103q, e103⟩ := hQ103
    have N103 := Fr.app N101 N103q
    have pre103 : ∀ t, Steps p.tables e below (T103.setTop (mkF m 93 #[.val (.long pv), .second, .val (.long qv), .second, .val (.int fv), .val (.ref wB), .val (.int ((fv >>> ((1 : Int32) &&& 31)) &&& (3 : Int32))), .val (.long ov), .second, .val (.int (own_ma_b pv ov)), .val (.int (own_ma_b ov pv)), .unset, .unset, .unset, .unset] [(.ref wS)])) t → Steps p.tables e below (s₁.setTop (entryFrame m #[(.long pv), (.long qv), (.int fv)] maxLocals)) t := fun t k => pre102 _ (st103.trans k)
    have pre104 : ∀ t, Steps p.tables e below (T103.setTop (mkF m 96 #[.val (.long pv), .second, .val (.long qv), .second, .val (.int fv), .val (.ref wB), .val (.int ((fv >>> ((1 : Int32) &&& 31)) &&& (3 : Int32))), .val (.long ov), .second, .val (.int (own_ma_b pv ov)), .val (.int (own_ma_b ov pv)), .unset, .unset, .unset, .unset] [(.long pv), (.long ov), (.ref wS)])) t → Steps p.tables e below (s₁.setTop (entryFrame m #[(.long pv), (.long qv), (.int fv)] maxLocals)) t := fun t k => by
      refine pre103 _ ?_
      show Steps p.tables e below (T103.setTop (mkF m 93 #[.val (.long pv), .second, .val (.long qv), .second, .val (.int fv), .val (.ref wB), .val (.int ((fv >>> ((1 : Int32) &&& 31)) &&& (3 : Int32))), .val (.long ov), .second, .val (.int (own_ma_b pv ov)), .val (.int (own_ma_b ov pv)), .unset, .unset, .unset, .unset] [(.ref wS)])) _
      refine XS.lload X103.here hx rfl (hb hby at_93) rfl ?_
      show Steps p.tables e below (T103.setTop (mkF m 95 #[.val (.long pv), .second, .val (.long qv), .second, .val (.int fv), .val (.ref wB), .val (.int ((fv >>> ((1 : Int32) &&& 31)) &&& (3 : Int32))), .val (.long ov), .second, .val (.int (own_ma_b pv ov)), .val (.int (own_ma_b ov pv)), .unset, .unset, .unset, .unset] [(.long ov), (.ref wS)])) _
      refine XS.lloadN X103.here hx rfl (hb hby at_95) rfl ?_
      show Steps p.tables e below (T103.setTop (mkF m 96 #[.val (.long pv), .second, .val (.long qv), .second, .val (.int fv), .val (.ref wB), .val (.int ((fv >>> ((1 : Int32) &&& 31)) &&& (3 : Int32))), .val (.long ov), .second, .val (.int (own_ma_b pv ov)), .val (.int (own_ma_b ov pv)), .unset, .unset, .unset, .unset] [(.long pv), (.long ov), (.ref wS)])) _
      exact k
    obtain ⟨cq105, kq105, q105a, q105b, q105c⟩ := isOf hZ e103 E_S
    obtain ⟨_, _, ⟨T105, L105, k105, n105⟩, -, X105, ⟨Lc105, hQ105, l105, y105, z105⟩, st105⟩ := X103.virtualBack hx (y := (⟨"com/example/tidebook/tidebook/book/Side", "isMoreAggressive", "(JJ)Z"⟩ : MethodName)) (z := (⟨"com/example/tidebook/tidebook/book/Side", "isMoreAggressive", "(JJ)Z"⟩ : MethodName)) hown (mvT hZ (hw _ (List.mem_of_getElem? (i := 3) rfl))) (mvT hZ (hw _ (List.mem_of_getElem? (i := 4) rfl))) (notFace_of_selects (args := #[]) (mvT hZ (hw _ (List.mem_of_getElem? (i := 6) rfl)))) (mvT hZ (hw _ (List.mem_of_getElem? (i := 6) rfl))) (mvT hZ (hw _ (List.mem_of_getElem? (i := 5) rfl))) (by decide) (backOf (W := 0) (rm1_s l Z aZ hw [] wS ov pv wB h0 n0 Z0 S_B S_S hne) hZ (hw _ (List.mem_of_getElem? (i := 7) rfl)) (hw _ (List.mem_of_getElem? (i := 1) rfl)) (by decide) (by decide)) q105a q105c (g := (mkF m 96 #[.val (.long pv), .second, .val (.long qv), .second, .val (.int fv), .val (.ref wB), .val (.int ((fv >>> ((1 : Int32) &&& 31)) &&& (3 : Int32))), .val (.long ov), .second, .val (.int (own_ma_b pv ov)), .val (.int (own_ma_b ov pv)), .unset, .unset, .unset, .unset] [(.long pv), (.long ov), (.ref wS)])) rfl (by rw [hml]; rfl) (Steps.refl _) (argsL := [(.long ov), (.long pv)]) (rest := []) (lenOf pd_0 rfl) rfl (by show 2 * 0 + _ ≤ _; exact Nat.le_of_eq rfl) (hb hby at_96) (fun _ _ => ⟨rfl, e103, (by decide : 0 + 0 ≤ _), (by decide : 0 + 0 ≤ _)⟩)
    dsimp only [Pt.U, Pt.locs, Pt.cells, Pt.slots] at X105 l105 y105 z105 st105 hQ105
    subst l105 y105 z105
    obtain ⟨rfl, N105q, e105⟩ := hQ105
    have N105 := Fr.app N103 N105q
    have pre105 : ∀ t, Steps p.tables e below (T105.setTop (mkF m 99 #[.val (.long pv), .second, .val (.long qv), .second, .val (.int fv), .val (.ref wB), .val (.int ((fv >>> ((1 : Int32) &&& 31)) &&& (3 : Int32))), .val (.long ov), .second, .val (.int (own_ma_b pv ov)), .val (.int (own_ma_b ov pv)), .unset, .unset, .unset, .unset] [(.int (own_ma_s ov pv))])) t → Steps p.tables e below (s₁.setTop (entryFrame m #[(.long pv), (.long qv), (.int fv)] maxLocals)) t := fun t k => pre104 _ (st105.trans k)
    have pre106 : ∀ t, Steps p.tables e below (T105.setTop (mkF m 106 #[.val (.long pv), .second, .val (.long qv), .second, .val (.int fv), .val (.ref wB), .val (.int ((fv >>> ((1 : Int32) &&& 31)) &&& (3 : Int32))), .val (.long ov), .second, .val (.int (own_ma_b pv ov)), .val (.int (own_ma_b ov pv)), .val (.int (own_ma_s ov pv)), .unset, .unset, .unset] [(.long ov), (.long pv), (.ref wB)])) t → Steps p.tables e below (s₁.setTop (entryFrame m #[(.long pv), (.long qv), (.int fv)] maxLocals)) t := fun t k => by
      refine pre105 _ ?_
      show Steps p.tables e below (T105.setTop (mkF m 99 #[.val (.long pv), .second, .val (.long qv), .second, .val (.int fv), .val (.ref wB), .val (.int ((fv >>> ((1 : Int32) &&& 31)) &&& (3 : Int32))), .val (.long ov), .second, .val (.int (own_ma_b pv ov)), .val (.int (own_ma_b ov pv)), .unset, .unset, .unset, .unset] [(.int (own_ma_s ov pv))])) _
      refine XS.istore X105.here hx rfl (hb hby at_99) rfl (l' := #[.val (.long pv), .second, .val (.long qv), .second, .val (.int fv), .val (.ref wB), .val (.int ((fv >>> ((1 : Int32) &&& 31)) &&& (3 : Int32))), .val (.long ov), .second, .val (.int (own_ma_b pv ov)), .val (.int (own_ma_b ov pv)), .val (.int (own_ma_s ov pv)), .unset, .unset, .unset]) rfl ?_
      show Steps p.tables e below (T105.setTop (mkF m 101 #[.val (.long pv), .second, .val (.long qv), .second, .val (.int fv), .val (.ref wB), .val (.int ((fv >>> ((1 : Int32) &&& 31)) &&& (3 : Int32))), .val (.long ov), .second, .val (.int (own_ma_b pv ov)), .val (.int (own_ma_b ov pv)), .val (.int (own_ma_s ov pv)), .unset, .unset, .unset] [])) _
      refine XS.aload X105.here hx rfl (hb hby at_101) rfl rfl ?_
      show Steps p.tables e below (T105.setTop (mkF m 103 #[.val (.long pv), .second, .val (.long qv), .second, .val (.int fv), .val (.ref wB), .val (.int ((fv >>> ((1 : Int32) &&& 31)) &&& (3 : Int32))), .val (.long ov), .second, .val (.int (own_ma_b pv ov)), .val (.int (own_ma_b ov pv)), .val (.int (own_ma_s ov pv)), .unset, .unset, .unset] [(.ref wB)])) _
      refine XS.lloadN X105.here hx rfl (hb hby at_103) rfl ?_
      show Steps p.tables e below (T105.setTop (mkF m 104 #[.val (.long pv), .second, .val (.long qv), .second, .val (.int fv), .val (.ref wB), .val (.int ((fv >>> ((1 : Int32) &&& 31)) &&& (3 : Int32))), .val (.long ov), .second, .val (.int (own_ma_b pv ov)), .val (.int (own_ma_b ov pv)), .val (.int (own_ma_s ov pv)), .unset, .unset, .unset] [(.long pv), (.ref wB)])) _
      refine XS.lload X105.here hx rfl (hb hby at_104) rfl ?_
      show Steps p.tables e below (T105.setTop (mkF m 106 #[.val (.long pv), .second, .val (.long qv), .second, .val (.int fv), .val (.ref wB), .val (.int ((fv >>> ((1 : Int32) &&& 31)) &&& (3 : Int32))), .val (.long ov), .second, .val (.int (own_ma_b pv ov)), .val (.int (own_ma_b ov pv)), .val (.int (own_ma_s ov pv)), .unset, .unset, .unset] [(.long ov), (.long pv), (.ref wB)])) _
      exact k
    obtain ⟨cq107, kq107, q107a, q107b, q107c⟩ := isOf hZ e105 E_B
    obtain ⟨_, _, ⟨T107, L107, k107, n107⟩, -, X107, ⟨Lc107, hQ107, l107, y107, z107⟩, st107⟩ := X105.virtualBack hx (y := (⟨"com/example/tidebook/tidebook/book/Side", "lessAggressive", "(JJ)J"⟩ : MethodName)) (z := (⟨"com/example/tidebook/tidebook/book/Side", "lessAggressive", "(JJ)J"⟩ : MethodName)) hown (mvT hZ (hw _ (List.mem_of_getElem? (i := 16) rfl))) (mvT hZ (hw _ (List.mem_of_getElem? (i := 17) rfl))) (notFace_of_selects (args := #[]) (mvT hZ (hw _ (List.mem_of_getElem? (i := 19) rfl)))) (mvT hZ (hw _ (List.mem_of_getElem? (i := 19) rfl))) (mvT hZ (hw _ (List.mem_of_getElem? (i := 18) rfl))) (by decide) (backOf (W := 0) (rm3_b l Z aZ hw [] wB pv ov wS h0 n0 Z0 S_B S_S hne) hZ (hw _ (List.mem_of_getElem? (i := 20) rfl)) (hw _ (List.mem_of_getElem? (i := 1) rfl)) (by decide) (by decide)) q107a q107c (g := (mkF m 106 #[.val (.long pv), .second, .val (.long qv), .second, .val (.int fv), .val (.ref wB), .val (.int ((fv >>> ((1 : Int32) &&& 31)) &&& (3 : Int32))), .val (.long ov), .second, .val (.int (own_ma_b pv ov)), .val (.int (own_ma_b ov pv)), .val (.int (own_ma_s ov pv)), .unset, .unset, .unset] [(.long ov), (.long pv), (.ref wB)])) rfl (by rw [hml]; rfl) (Steps.refl _) (argsL := [(.long pv), (.long ov)]) (rest := []) (lenOf pd_2 rfl) rfl (by show 2 * 0 + _ ≤ _; exact Nat.le_of_eq rfl) (hb hby at_106) (fun _ _ => ⟨rfl, e105, (by decide : 0 + 0 ≤ _), (by decide : 0 + 0 ≤ _)⟩)
    dsimp only [Pt.U, Pt.locs, Pt.cells, Pt.slots] at X107 l107 y107 z107 st107 hQ107
    subst l107 y107 z107
    obtain ⟨rfl, N107q, e107⟩ := hQ107
    have N107 := Fr.app N105 N107q
    have pre107 : ∀ t, Steps p.tables e below (T107.setTop (mkF m 109 #[.val (.long pv), .second, .val (.long qv), .second, .val (.int fv), .val (.ref wB), .val (.int ((fv >>> ((1 : Int32) &&& 31)) &&& (3 : Int32))), .val (.long ov), .second, .val (.int (own_ma_b pv ov)), .val (.int (own_ma_b ov pv)), .val (.int (own_ma_s ov pv)), .unset, .unset, .unset] [(.long (own_la_b pv ov))])) t → Steps p.tables e below (s₁.setTop (entryFrame m #[(.long pv), (.long qv), (.int fv)] maxLocals)) t := fun t k => pre106 _ (st107.trans k)
    have pre108 : ∀ t, Steps p.tables e below (T107.setTop (mkF m 111 #[.val (.long pv), .second, .val (.long qv), .second, .val (.int fv), .val (.ref wB), .val (.int ((fv >>> ((1 : Int32) &&& 31)) &&& (3 : Int32))), .val (.long ov), .second, .val (.int (own_ma_b pv ov)), .val (.int (own_ma_b ov pv)), .val (.int (own_ma_s ov pv)), .val (.long (own_la_b pv ov)), .second, .unset] [])) t → Steps p.tables e below (s₁.setTop (entryFrame m #[(.long pv), (.long qv), (.int fv)] maxLocals)) t := fun t k => by
      refine pre107 _ ?_
      show Steps p.tables e below (T107.setTop (mkF m 109 #[.val (.long pv), .second, .val (.long qv), .second, .val (.int fv), .val (.ref wB), .val (.int ((fv >>> ((1 : Int32) &&& 31)) &&& (3 : Int32))), .val (.long ov), .second, .val (.int (own_ma_b pv ov)), .val (.int (own_ma_b ov pv)), .val (.int (own_ma_s ov pv)), .unset, .unset, .unset] [(.long (own_la_b pv ov))])) _
      refine XS.lstore X107.here hx rfl (hb hby at_109) rfl (l' := #[.val (.long pv), .second, .val (.long qv), .second, .val (.int fv), .val (.ref wB), .val (.int ((fv >>> ((1 : Int32) &&& 31)) &&& (3 : Int32))), .val (.long ov), .second, .val (.int (own_ma_b pv ov)), .val (.int (own_ma_b ov pv)), .val (.int (own_ma_s ov pv)), .val (.long (own_la_b pv ov)), .second, .unset]) rfl ?_
      show Steps p.tables e below (T107.setTop (mkF m 111 #[.val (.long pv), .second, .val (.long qv), .second, .val (.int fv), .val (.ref wB), .val (.int ((fv >>> ((1 : Int32) &&& 31)) &&& (3 : Int32))), .val (.long ov), .second, .val (.int (own_ma_b pv ov)), .val (.int (own_ma_b ov pv)), .val (.int (own_ma_s ov pv)), .val (.long (own_la_b pv ov)), .second, .unset] [])) _
      exact k
    have htri : pv < ov ∨ pv = ov ∨ ov < pv := by simp only [Int64.lt_iff_toInt_lt, ← Int64.toInt_inj]; omega
    rcases htri with hc | hc | hc
    · have hneg : ¬ (ov < pv) := by simp only [Int64.lt_iff_toInt_lt, ← Int64.toInt_inj] at hc ⊢; omega
      have hneq : ¬ (pv = ov) := by simp only [Int64.lt_iff_toInt_lt, ← Int64.toInt_inj] at hc ⊢; omega
      have ra : (own_ma_b pv ov) = (0 : Int32) := by
        unfold own_ma_b
        first | (rw [if_pos hc]; done) | (rw [if_neg hneg]; done) | (rw [if_neg hneq]; done) | (rw [if_neg (by simp only [Int64.lt_iff_toInt_lt, ← Int64.toInt_inj] at hc ⊢; omega)]; first | done | exact hc.symm) | (rw [if_pos (by simp only [Int64.lt_iff_toInt_lt, ← Int64.toInt_inj] at hc ⊢; omega)]; first | done | exact hc.symm)
      have rb : (own_ma_b ov pv) = (1 : Int32) := by
        unfold own_ma_b
        first | (rw [if_pos hc]; done) | (rw [if_neg hneg]; done) | (rw [if_neg hneq]; done) | (rw [if_neg (by simp only [Int64.lt_iff_toInt_lt, ← Int64.toInt_inj] at hc ⊢; omega)]; first | done | exact hc.symm) | (rw [if_pos (by simp only [Int64.lt_iff_toInt_lt, ← Int64.toInt_inj] at hc ⊢; omega)]; first | done | exact hc.symm)
      have rc : (own_ma_s ov pv) = (0 : Int32) := by
        unfold own_ma_s
        first | (rw [if_pos hc]; done) | (rw [if_neg hneg]; done) | (rw [if_neg hneq]; done) | (rw [if_neg (by simp only [Int64.lt_iff_toInt_lt, ← Int64.toInt_inj] at hc ⊢; omega)]; first | done | exact hc.symm) | (rw [if_pos (by simp only [Int64.lt_iff_toInt_lt, ← Int64.toInt_inj] at hc ⊢; omega)]; first | done | exact hc.symm)
      have rl : (own_la_b pv ov) = pv := by
        unfold own_la_b
        unfold own_min
        first | (rw [if_pos hc]; done) | (rw [if_neg hneg]; done) | (rw [if_neg hneq]; done) | (rw [if_neg (by simp only [Int64.lt_iff_toInt_lt, ← Int64.toInt_inj] at hc ⊢; omega)]; first | done | exact hc.symm) | (rw [if_pos (by simp only [Int64.lt_iff_toInt_lt, ← Int64.toInt_inj] at hc ⊢; omega)]; first | done | exact hc.symm)
      have pre109 : ∀ t, Steps p.tables e below (T107.setTop (mkF m 111 #[.val (.long pv), .second, .val (.long qv), .second, .val (.int fv), .val (.ref wB), .val (.int ((fv >>> ((1 : Int32) &&& 31)) &&& (3 : Int32))), .val (.long ov), .second, .val (.int (0 : Int32)), .val (.int (own_ma_b ov pv)), .val (.int (own_ma_s ov pv)), .val (.long (own_la_b pv ov)), .second, .unset] [])) t → Steps p.tables e below (s₁.setTop (entryFrame m #[(.long pv), (.long qv), (.int fv)] maxLocals)) t := by
        have q := pre108
        rw [ra] at q
        exact q
      have pre110 : ∀ t, Steps p.tables e below (T107.setTop (mkF m 111 #[.val (.long pv), .second, .val (.long qv), .second, .val (.int fv), .val (.ref wB), .val (.int ((fv >>> ((1 : Int32) &&& 31)) &&& (3 : Int32))), .val (.long ov), .second, .val (.int (0 : Int32)), .val (.int (1 : Int32)), .val (.int (own_ma_s ov pv)), .val (.long (own_la_b pv ov)), .second, .unset] [])) t → Steps p.tables e below (s₁.setTop (entryFrame m #[(.long pv), (.long qv), (.int fv)] maxLocals)) t := by
        have q := pre109
        rw [rb] at q
        exact q
      have pre111 : ∀ t, Steps p.tables e below (T107.setTop (mkF m 111 #[.val (.long pv), .second, .val (.long qv), .second, .val (.int fv), .val (.ref wB), .val (.int ((fv >>> ((1 : Int32) &&& 31)) &&& (3 : Int32))), .val (.long ov), .second, .val (.int (0 : Int32)), .val (.int (1 : Int32)), .val (.int (0 : Int32)), .val (.long (own_la_b pv ov)), .second, .unset] [])) t → Steps p.tables e below (s₁.setTop (entryFrame m #[(.long pv), (.long qv), (.int fv)] maxLocals)) t := by
        have q := pre110
        rw [rc] at q
        exact q
      have pre112 : ∀ t, Steps p.tables e below (T107.setTop (mkF m 111 #[.val (.long pv), .second, .val (.long qv), .second, .val (.int fv), .val (.ref wB), .val (.int ((fv >>> ((1 : Int32) &&& 31)) &&& (3 : Int32))), .val (.long ov), .second, .val (.int (0 : Int32)), .val (.int (1 : Int32)), .val (.int (0 : Int32)), .val (.long pv), .second, .unset] [])) t → Steps p.tables e below (s₁.setTop (entryFrame m #[(.long pv), (.long qv), (.int fv)] maxLocals)) t := by
        have q := pre111
        rw [rl] at q
        exact q
      obtain ⟨fs, hr, hrun, hended, hW, hsame⟩ := X107.leave (v := some (.int (1 : Int32))) (fun h => by rw [Bd.returns] at h; cases h)
      refine ⟨_, _, pre112 _ ?_, hrun, hended, _, _, rfl, ?_, ⟨_, rfl⟩, hW, hsame.mono (by decide) (by decide)⟩
      · show Steps p.tables e below (T107.setTop (mkF m 111 #[.val (.long pv), .second, .val (.long qv), .second, .val (.int fv), .val (.ref wB), .val (.int ((fv >>> ((1 : Int32) &&& 31)) &&& (3 : Int32))), .val (.long ov), .second, .val (.int (0 : Int32)), .val (.int (1 : Int32)), .val (.int (0 : Int32)), .val (.long pv), .second, .unset] [])) _
        refine XS.iload X107.here hx rfl (hb hby at_111) rfl ?_
        show Steps p.tables e below (T107.setTop (mkF m 113 #[.val (.long pv), .second, .val (.long qv), .second, .val (.int fv), .val (.ref wB), .val (.int ((fv >>> ((1 : Int32) &&& 31)) &&& (3 : Int32))), .val (.long ov), .second, .val (.int (0 : Int32)), .val (.int (1 : Int32)), .val (.int (0 : Int32)), .val (.long pv), .second, .unset] [(.int (0 : Int32))])) _
        refine XS.ifYes X107.here hx rfl (pc0 := 113) (pc' := 120) rfl (hb hby at_113) rfl ((if0 _ _).trans (teq (by decide : (0 : Int32) = (0 : Int32))).1) (by decide) (by decide) ?_
        show Steps p.tables e below (T107.setTop (mkF m 120 #[.val (.long pv), .second, .val (.long qv), .second, .val (.int fv), .val (.ref wB), .val (.int ((fv >>> ((1 : Int32) &&& 31)) &&& (3 : Int32))), .val (.long ov), .second, .val (.int (0 : Int32)), .val (.int (1 : Int32)), .val (.int (0 : Int32)), .val (.long pv), .second, .unset] [])) _
        refine XS.iconst X107.here hx rfl (hb hby at_120) ?_
        show Steps p.tables e below (T107.setTop (mkF m 121 #[.val (.long pv), .second, .val (.long qv), .second, .val (.int fv), .val (.ref wB), .val (.int ((fv >>> ((1 : Int32) &&& 31)) &&& (3 : Int32))), .val (.long ov), .second, .val (.int (0 : Int32)), .val (.int (1 : Int32)), .val (.int (0 : Int32)), .val (.long pv), .second, .unset] [(.int (0 : Int32))])) _
        refine XS.iload X107.here hx rfl (hb hby at_121) rfl ?_
        show Steps p.tables e below (T107.setTop (mkF m 123 #[.val (.long pv), .second, .val (.long qv), .second, .val (.int fv), .val (.ref wB), .val (.int ((fv >>> ((1 : Int32) &&& 31)) &&& (3 : Int32))), .val (.long ov), .second, .val (.int (0 : Int32)), .val (.int (1 : Int32)), .val (.int (0 : Int32)), .val (.long pv), .second, .unset] [(.int (1 : Int32)), (.int (0 : Int32))])) _
        refine XS.ifNo X107.here hx rfl (hb hby at_123) rfl ((if0 _ _).trans (feq (by decide : ¬ ((1 : Int32) = (0 : Int32)))).1) ?_
        show Steps p.tables e below (T107.setTop (mkF m 126 #[.val (.long pv), .second, .val (.long qv), .second, .val (.int fv), .val (.ref wB), .val (.int ((fv >>> ((1 : Int32) &&& 31)) &&& (3 : Int32))), .val (.long ov), .second, .val (.int (0 : Int32)), .val (.int (1 : Int32)), .val (.int (0 : Int32)), .val (.long pv), .second, .unset] [(.int (0 : Int32))])) _
        refine XS.iconst X107.here hx rfl (hb hby at_126) ?_
        show Steps p.tables e below (T107.setTop (mkF m 127 #[.val (.long pv), .second, .val (.long qv), .second, .val (.int fv), .val (.ref wB), .val (.int ((fv >>> ((1 : Int32) &&& 31)) &&& (3 : Int32))), .val (.long ov), .second, .val (.int (0 : Int32)), .val (.int (1 : Int32)), .val (.int (0 : Int32)), .val (.long pv), .second, .unset] [(.int (1 : Int32)), (.int (0 : Int32))])) _
        refine XS.goto X107.here hx rfl (pc0 := 127) (pc' := 131) rfl (hb hby at_127) (by decide) (by decide) ?_
        show Steps p.tables e below (T107.setTop (mkF m 131 #[.val (.long pv), .second, .val (.long qv), .second, .val (.int fv), .val (.ref wB), .val (.int ((fv >>> ((1 : Int32) &&& 31)) &&& (3 : Int32))), .val (.long ov), .second, .val (.int (0 : Int32)), .val (.int (1 : Int32)), .val (.int (0 : Int32)), .val (.long pv), .second, .unset] [(.int (1 : Int32)), (.int (0 : Int32))])) _
        refine XS.iadd X107.here hx rfl (hb hby at_131) rfl ?_
        show Steps p.tables e below (T107.setTop (mkF m 132 #[.val (.long pv), .second, .val (.long qv), .second, .val (.int fv), .val (.ref wB), .val (.int ((fv >>> ((1 : Int32) &&& 31)) &&& (3 : Int32))), .val (.long ov), .second, .val (.int (0 : Int32)), .val (.int (1 : Int32)), .val (.int (0 : Int32)), .val (.long pv), .second, .unset] [(.int ((0 : Int32) + (1 : Int32)))])) _
        refine XS.lloadN X107.here hx rfl (hb hby at_132) rfl ?_
        show Steps p.tables e below (T107.setTop (mkF m 133 #[.val (.long pv), .second, .val (.long qv), .second, .val (.int fv), .val (.ref wB), .val (.int ((fv >>> ((1 : Int32) &&& 31)) &&& (3 : Int32))), .val (.long ov), .second, .val (.int (0 : Int32)), .val (.int (1 : Int32)), .val (.int (0 : Int32)), .val (.long pv), .second, .unset] [(.long pv), (.int ((0 : Int32) + (1 : Int32)))])) _
        refine XS.lload X107.here hx rfl (hb hby at_133) rfl ?_
        show Steps p.tables e below (T107.setTop (mkF m 135 #[.val (.long pv), .second, .val (.long qv), .second, .val (.int fv), .val (.ref wB), .val (.int ((fv >>> ((1 : Int32) &&& 31)) &&& (3 : Int32))), .val (.long ov), .second, .val (.int (0 : Int32)), .val (.int (1 : Int32)), .val (.int (0 : Int32)), .val (.long pv), .second, .unset] [(.long ov), (.long pv), (.int ((0 : Int32) + (1 : Int32)))])) _
        refine XS.lcmp X107.here hx rfl (hb hby at_135) rfl ?_
        show Steps p.tables e below (T107.setTop (mkF m 136 #[.val (.long pv), .second, .val (.long qv), .second, .val (.int fv), .val (.ref wB), .val (.int ((fv >>> ((1 : Int32) &&& 31)) &&& (3 : Int32))), .val (.long ov), .second, .val (.int (0 : Int32)), .val (.int (1 : Int32)), .val (.int (0 : Int32)), .val (.long pv), .second, .unset] [(.int (lcmpW pv ov)), (.int ((0 : Int32) + (1 : Int32)))])) _
        refine XS.ifYes X107.here hx rfl (pc0 := 136) (pc' := 143) rfl (hb hby at_136) rfl ((if0 _ _).trans (feq (fun q => hneq ((lw_eq pv ov).mp q))).2) (by decide) (by decide) ?_
        show Steps p.tables e below (T107.setTop (mkF m 143 #[.val (.long pv), .second, .val (.long qv), .second, .val (.int fv), .val (.ref wB), .val (.int ((fv >>> ((1 : Int32) &&& 31)) &&& (3 : Int32))), .val (.long ov), .second, .val (.int (0 : Int32)), .val (.int (1 : Int32)), .val (.int (0 : Int32)), .val (.long pv), .second, .unset] [(.int ((0 : Int32) + (1 : Int32)))])) _
        refine XS.iconst X107.here hx rfl (hb hby at_143) ?_
        show Steps p.tables e below (T107.setTop (mkF m 144 #[.val (.long pv), .second, .val (.long qv), .second, .val (.int fv), .val (.ref wB), .val (.int ((fv >>> ((1 : Int32) &&& 31)) &&& (3 : Int32))), .val (.long ov), .second, .val (.int (0 : Int32)), .val (.int (1 : Int32)), .val (.int (0 : Int32)), .val (.long pv), .second, .unset] [(.int (0 : Int32)), (.int ((0 : Int32) + (1 : Int32)))])) _
        refine XS.iadd X107.here hx rfl (hb hby at_144) rfl ?_
        show Steps p.tables e below (T107.setTop (mkF m 145 #[.val (.long pv), .second, .val (.long qv), .second, .val (.int fv), .val (.ref wB), .val (.int ((fv >>> ((1 : Int32) &&& 31)) &&& (3 : Int32))), .val (.long ov), .second, .val (.int (0 : Int32)), .val (.int (1 : Int32)), .val (.int (0 : Int32)), .val (.long pv), .second, .unset] [(.int (((0 : Int32) + (1 : Int32)) + (0 : Int32)))])) _
        refine XS.istore X107.here hx rfl (hb hby at_145) rfl (l' := #[.val (.long pv), .second, .val (.long qv), .second, .val (.int fv), .val (.ref wB), .val (.int ((fv >>> ((1 : Int32) &&& 31)) &&& (3 : Int32))), .val (.long ov), .second, .val (.int (0 : Int32)), .val (.int (1 : Int32)), .val (.int (0 : Int32)), .val (.long pv), .second, .val (.int (((0 : Int32) + (1 : Int32)) + (0 : Int32)))]) rfl ?_
        show Steps p.tables e below (T107.setTop (mkF m 147 #[.val (.long pv), .second, .val (.long qv), .second, .val (.int fv), .val (.ref wB), .val (.int ((fv >>> ((1 : Int32) &&& 31)) &&& (3 : Int32))), .val (.long ov), .second, .val (.int (0 : Int32)), .val (.int (1 : Int32)), .val (.int (0 : Int32)), .val (.long pv), .second, .val (.int (((0 : Int32) + (1 : Int32)) + (0 : Int32)))] [])) _
        refine XS.iload X107.here hx rfl (hb hby at_147) rfl ?_
        show Steps p.tables e below (T107.setTop (mkF m 149 #[.val (.long pv), .second, .val (.long qv), .second, .val (.int fv), .val (.ref wB), .val (.int ((fv >>> ((1 : Int32) &&& 31)) &&& (3 : Int32))), .val (.long ov), .second, .val (.int (0 : Int32)), .val (.int (1 : Int32)), .val (.int (0 : Int32)), .val (.long pv), .second, .val (.int (((0 : Int32) + (1 : Int32)) + (0 : Int32)))] [(.int (((0 : Int32) + (1 : Int32)) + (0 : Int32)))])) _
        refine XS.iconst X107.here hx rfl (hb hby at_149) ?_
        show Steps p.tables e below (T107.setTop (mkF m 150 #[.val (.long pv), .second, .val (.long qv), .second, .val (.int fv), .val (.ref wB), .val (.int ((fv >>> ((1 : Int32) &&& 31)) &&& (3 : Int32))), .val (.long ov), .second, .val (.int (0 : Int32)), .val (.int (1 : Int32)), .val (.int (0 : Int32)), .val (.long pv), .second, .val (.int (((0 : Int32) + (1 : Int32)) + (0 : Int32)))] [(.int (1 : Int32)), (.int (((0 : Int32) + (1 : Int32)) + (0 : Int32)))])) _
        refine XS.icmpYes X107.here hx rfl (pc0 := 150) (pc' := 155) rfl (hb hby at_150) rfl (teq (by decide : (((0 : Int32) + (1 : Int32)) + (0 : Int32)) = (1 : Int32))).1 (by decide) (by decide) ?_
        show Steps p.tables e below (T107.setTop (mkF m 155 #[.val (.long pv), .second, .val (.long qv), .second, .val (.int fv), .val (.ref wB), .val (.int ((fv >>> ((1 : Int32) &&& 31)) &&& (3 : Int32))), .val (.long ov), .second, .val (.int (0 : Int32)), .val (.int (1 : Int32)), .val (.int (0 : Int32)), .val (.long pv), .second, .val (.int (((0 : Int32) + (1 : Int32)) + (0 : Int32)))] [])) _
        refine XS.iload X107.here hx rfl (hb hby at_155) rfl ?_
        show Steps p.tables e below (T107.setTop (mkF m 157 #[.val (.long pv), .second, .val (.long qv), .second, .val (.int fv), .val (.ref wB), .val (.int ((fv >>> ((1 : Int32) &&& 31)) &&& (3 : Int32))), .val (.long ov), .second, .val (.int (0 : Int32)), .val (.int (1 : Int32)), .val (.int (0 : Int32)), .val (.long pv), .second, .val (.int (((0 : Int32) + (1 : Int32)) + (0 : Int32)))] [(.int (0 : Int32))])) _
        refine XS.iload X107.here hx rfl (hb hby at_157) rfl ?_
        show Steps p.tables e below (T107.setTop (mkF m 159 #[.val (.long pv), .second, .val (.long qv), .second, .val (.int fv), .val (.ref wB), .val (.int ((fv >>> ((1 : Int32) &&& 31)) &&& (3 : Int32))), .val (.long ov), .second, .val (.int (0 : Int32)), .val (.int (1 : Int32)), .val (.int (0 : Int32)), .val (.long pv), .second, .val (.int (((0 : Int32) + (1 : Int32)) + (0 : Int32)))] [(.int (0 : Int32)), (.int (0 : Int32))])) _
        refine XS.icmpYes X107.here hx rfl (pc0 := 159) (pc' := 164) rfl (hb hby at_159) rfl (teq (by decide : (0 : Int32) = (0 : Int32))).1 (by decide) (by decide) ?_
        show Steps p.tables e below (T107.setTop (mkF m 164 #[.val (.long pv), .second, .val (.long qv), .second, .val (.int fv), .val (.ref wB), .val (.int ((fv >>> ((1 : Int32) &&& 31)) &&& (3 : Int32))), .val (.long ov), .second, .val (.int (0 : Int32)), .val (.int (1 : Int32)), .val (.int (0 : Int32)), .val (.long pv), .second, .val (.int (((0 : Int32) + (1 : Int32)) + (0 : Int32)))] [])) _
        refine XS.iload X107.here hx rfl (hb hby at_164) rfl ?_
        show Steps p.tables e below (T107.setTop (mkF m 166 #[.val (.long pv), .second, .val (.long qv), .second, .val (.int fv), .val (.ref wB), .val (.int ((fv >>> ((1 : Int32) &&& 31)) &&& (3 : Int32))), .val (.long ov), .second, .val (.int (0 : Int32)), .val (.int (1 : Int32)), .val (.int (0 : Int32)), .val (.long pv), .second, .val (.int (((0 : Int32) + (1 : Int32)) + (0 : Int32)))] [(.int (0 : Int32))])) _
        refine XS.ifYes X107.here hx rfl (pc0 := 166) (pc' := 179) rfl (hb hby at_166) rfl ((if0 _ _).trans (teq (by decide : (0 : Int32) = (0 : Int32))).1) (by decide) (by decide) ?_
        show Steps p.tables e below (T107.setTop (mkF m 179 #[.val (.long pv), .second, .val (.long qv), .second, .val (.int fv), .val (.ref wB), .val (.int ((fv >>> ((1 : Int32) &&& 31)) &&& (3 : Int32))), .val (.long ov), .second, .val (.int (0 : Int32)), .val (.int (1 : Int32)), .val (.int (0 : Int32)), .val (.long pv), .second, .val (.int (((0 : Int32) + (1 : Int32)) + (0 : Int32)))] [])) _
        refine XS.iload X107.here hx rfl (hb hby at_179) rfl ?_
        show Steps p.tables e below (T107.setTop (mkF m 181 #[.val (.long pv), .second, .val (.long qv), .second, .val (.int fv), .val (.ref wB), .val (.int ((fv >>> ((1 : Int32) &&& 31)) &&& (3 : Int32))), .val (.long ov), .second, .val (.int (0 : Int32)), .val (.int (1 : Int32)), .val (.int (0 : Int32)), .val (.long pv), .second, .val (.int (((0 : Int32) + (1 : Int32)) + (0 : Int32)))] [(.int (1 : Int32))])) _
        refine XS.ifNo X107.here hx rfl (hb hby at_181) rfl ((if0 _ _).trans (feq (by decide : ¬ ((1 : Int32) = (0 : Int32)))).1) ?_
        show Steps p.tables e below (T107.setTop (mkF m 184 #[.val (.long pv), .second, .val (.long qv), .second, .val (.int fv), .val (.ref wB), .val (.int ((fv >>> ((1 : Int32) &&& 31)) &&& (3 : Int32))), .val (.long ov), .second, .val (.int (0 : Int32)), .val (.int (1 : Int32)), .val (.int (0 : Int32)), .val (.long pv), .second, .val (.int (((0 : Int32) + (1 : Int32)) + (0 : Int32)))] [])) _
        refine XS.lload X107.here hx rfl (hb hby at_184) rfl ?_
        show Steps p.tables e below (T107.setTop (mkF m 186 #[.val (.long pv), .second, .val (.long qv), .second, .val (.int fv), .val (.ref wB), .val (.int ((fv >>> ((1 : Int32) &&& 31)) &&& (3 : Int32))), .val (.long ov), .second, .val (.int (0 : Int32)), .val (.int (1 : Int32)), .val (.int (0 : Int32)), .val (.long pv), .second, .val (.int (((0 : Int32) + (1 : Int32)) + (0 : Int32)))] [(.long pv)])) _
        refine XS.lloadN X107.here hx rfl (hb hby at_186) rfl ?_
        show Steps p.tables e below (T107.setTop (mkF m 187 #[.val (.long pv), .second, .val (.long qv), .second, .val (.int fv), .val (.ref wB), .val (.int ((fv >>> ((1 : Int32) &&& 31)) &&& (3 : Int32))), .val (.long ov), .second, .val (.int (0 : Int32)), .val (.int (1 : Int32)), .val (.int (0 : Int32)), .val (.long pv), .second, .val (.int (((0 : Int32) + (1 : Int32)) + (0 : Int32)))] [(.long pv), (.long pv)])) _
        refine XS.lcmp X107.here hx rfl (hb hby at_187) rfl ?_
        show Steps p.tables e below (T107.setTop (mkF m 188 #[.val (.long pv), .second, .val (.long qv), .second, .val (.int fv), .val (.ref wB), .val (.int ((fv >>> ((1 : Int32) &&& 31)) &&& (3 : Int32))), .val (.long ov), .second, .val (.int (0 : Int32)), .val (.int (1 : Int32)), .val (.int (0 : Int32)), .val (.long pv), .second, .val (.int (((0 : Int32) + (1 : Int32)) + (0 : Int32)))] [(.int (lcmpW pv pv))])) _
        refine XS.ifYes X107.here hx rfl (pc0 := 188) (pc' := 193) rfl (hb hby at_188) rfl ((if0 _ _).trans (teq ((lw_eq pv pv).mpr (rfl : pv = pv))).1) (by decide) (by decide) ?_
        show Steps p.tables e below (T107.setTop (mkF m 193 #[.val (.long pv), .second, .val (.long qv), .second, .val (.int fv), .val (.ref wB), .val (.int ((fv >>> ((1 : Int32) &&& 31)) &&& (3 : Int32))), .val (.long ov), .second, .val (.int (0 : Int32)), .val (.int (1 : Int32)), .val (.int (0 : Int32)), .val (.long pv), .second, .val (.int (((0 : Int32) + (1 : Int32)) + (0 : Int32)))] [])) _
        refine XS.iconst X107.here hx rfl (hb hby at_193) ?_
        show Steps p.tables e below (T107.setTop (mkF m 194 #[.val (.long pv), .second, .val (.long qv), .second, .val (.int fv), .val (.ref wB), .val (.int ((fv >>> ((1 : Int32) &&& 31)) &&& (3 : Int32))), .val (.long ov), .second, .val (.int (0 : Int32)), .val (.int (1 : Int32)), .val (.int (0 : Int32)), .val (.long pv), .second, .val (.int (((0 : Int32) + (1 : Int32)) + (0 : Int32)))] [(.int (1 : Int32))])) _
        exact retN X107 hx (t := .boolean) Bd.returns (by simp) (hb hby at_194) hr
      · show Q0 pv qv fv h0 n0 _ T107.heap _
        exact ⟨rfl, N107⟩
    · have hneg : ¬ (ov < pv) := by simp only [Int64.lt_iff_toInt_lt, ← Int64.toInt_inj] at hc ⊢; omega
      have hneq : ¬ (pv < ov) := by simp only [Int64.lt_iff_toInt_lt, ← Int64.toInt_inj] at hc ⊢; omega
      have ra : (own_ma_b pv ov) = (0 : Int32) := by
        unfold own_ma_b
        first | (rw [if_pos hc]; done) | (rw [if_neg hneg]; done) | (rw [if_neg hneq]; done) | (rw [if_neg (by simp only [Int64.lt_iff_toInt_lt, ← Int64.toInt_inj] at hc ⊢; omega)]; first | done | exact hc.symm) | (rw [if_pos (by simp only [Int64.lt_iff_toInt_lt, ← Int64.toInt_inj] at hc ⊢; omega)]; first | done | exact hc.symm)
      have rb : (own_ma_b ov pv) = (0 : Int32) := by
        unfold own_ma_b
        first | (rw [if_pos hc]; done) | (rw [if_neg hneg]; done) | (rw [if_neg hneq]; done) | (rw [if_neg (by simp only [Int64.lt_iff_toInt_lt, ← Int64.toInt_inj] at hc ⊢; omega)]; first | done | exact hc.symm) | (rw [if_pos (by simp only [Int64.lt_iff_toInt_lt, ← Int64.toInt_inj] at hc ⊢; omega)]; first | done | exact hc.symm)
      have rc : (own_ma_s ov pv) = (0 : Int32) := by
        unfold own_ma_s
        first | (rw [if_pos hc]; done) | (rw [if_neg hneg]; done) | (rw [if_neg hneq]; done) | (rw [if_neg (by simp only [Int64.lt_iff_toInt_lt, ← Int64.toInt_inj] at hc ⊢; omega)]; first | done | exact hc.symm) | (rw [if_pos (by simp only [Int64.lt_iff_toInt_lt, ← Int64.toInt_inj] at hc ⊢; omega)]; first | done | exact hc.symm)
      have rl : (own_la_b pv ov) = pv := by
        unfold own_la_b
        unfold own_min
        first | (rw [if_pos hc]; done) | (rw [if_neg hneg]; done) | (rw [if_neg hneq]; done) | (rw [if_neg (by simp only [Int64.lt_iff_toInt_lt, ← Int64.toInt_inj] at hc ⊢; omega)]; first | done | exact hc.symm) | (rw [if_pos (by simp only [Int64.lt_iff_toInt_lt, ← Int64.toInt_inj] at hc ⊢; omega)]; first | done | exact hc.symm)
      have pre113 : ∀ t, Steps p.tables e below (T107.setTop (mkF m 111 #[.val (.long pv), .second, .val (.long qv), .second, .val (.int fv), .val (.ref wB), .val (.int ((fv >>> ((1 : Int32) &&& 31)) &&& (3 : Int32))), .val (.long ov), .second, .val (.int (0 : Int32)), .val (.int (own_ma_b ov pv)), .val (.int (own_ma_s ov pv)), .val (.long (own_la_b pv ov)), .second, .unset] [])) t → Steps p.tables e below (s₁.setTop (entryFrame m #[(.long pv), (.long qv), (.int fv)] maxLocals)) t := by
        have q := pre108
        rw [ra] at q
        exact q
      have pre114 : ∀ t, Steps p.tables e below (T107.setTop (mkF m 111 #[.val (.long pv), .second, .val (.long qv), .second, .val (.int fv), .val (.ref wB), .val (.int ((fv >>> ((1 : Int32) &&& 31)) &&& (3 : Int32))), .val (.long ov), .second, .val (.int (0 : Int32)), .val (.int (0 : Int32)), .val (.int (own_ma_s ov pv)), .val (.long (own_la_b pv ov)), .second, .unset] [])) t → Steps p.tables e below (s₁.setTop (entryFrame m #[(.long pv), (.long qv), (.int fv)] maxLocals)) t := by
        have q := pre113
        rw [rb] at q
        exact q
      have pre115 : ∀ t, Steps p.tables e below (T107.setTop (mkF m 111 #[.val (.long pv), .second, .val (.long qv), .second, .val (.int fv), .val (.ref wB), .val (.int ((fv >>> ((1 : Int32) &&& 31)) &&& (3 : Int32))), .val (.long ov), .second, .val (.int (0 : Int32)), .val (.int (0 : Int32)), .val (.int (0 : Int32)), .val (.long (own_la_b pv ov)), .second, .unset] [])) t → Steps p.tables e below (s₁.setTop (entryFrame m #[(.long pv), (.long qv), (.int fv)] maxLocals)) t := by
        have q := pre114
        rw [rc] at q
        exact q
      have pre116 : ∀ t, Steps p.tables e below (T107.setTop (mkF m 111 #[.val (.long pv), .second, .val (.long qv), .second, .val (.int fv), .val (.ref wB), .val (.int ((fv >>> ((1 : Int32) &&& 31)) &&& (3 : Int32))), .val (.long ov), .second, .val (.int (0 : Int32)), .val (.int (0 : Int32)), .val (.int (0 : Int32)), .val (.long pv), .second, .unset] [])) t → Steps p.tables e below (s₁.setTop (entryFrame m #[(.long pv), (.long qv), (.int fv)] maxLocals)) t := by
        have q := pre115
        rw [rl] at q
        exact q
      obtain ⟨fs, hr, hrun, hended, hW, hsame⟩ := X107.leave (v := some (.int (1 : Int32))) (fun h => by rw [Bd.returns] at h; cases h)
      refine ⟨_, _, pre116 _ ?_, hrun, hended, _, _, rfl, ?_, ⟨_, rfl⟩, hW, hsame.mono (by decide) (by decide)⟩
      · show Steps p.tables e below (T107.setTop (mkF m 111 #[.val (.long pv), .second, .val (.long qv), .second, .val (.int fv), .val (.ref wB), .val (.int ((fv >>> ((1 : Int32) &&& 31)) &&& (3 : Int32))), .val (.long ov), .second, .val (.int (0 : Int32)), .val (.int (0 : Int32)), .val (.int (0 : Int32)), .val (.long pv), .second, .unset] [])) _
        refine XS.iload X107.here hx rfl (hb hby at_111) rfl ?_
        show Steps p.tables e below (T107.setTop (mkF m 113 #[.val (.long pv), .second, .val (.long qv), .second, .val (.int fv), .val (.ref wB), .val (.int ((fv >>> ((1 : Int32) &&& 31)) &&& (3 : Int32))), .val (.long ov), .second, .val (.int (0 : Int32)), .val (.int (0 : Int32)), .val (.int (0 : Int32)), .val (.long pv), .second, .unset] [(.int (0 : Int32))])) _
        refine XS.ifYes X107.here hx rfl (pc0 := 113) (pc' := 120) rfl (hb hby at_113) rfl ((if0 _ _).trans (teq (by decide : (0 : Int32) = (0 : Int32))).1) (by decide) (by decide) ?_
        show Steps p.tables e below (T107.setTop (mkF m 120 #[.val (.long pv), .second, .val (.long qv), .second, .val (.int fv), .val (.ref wB), .val (.int ((fv >>> ((1 : Int32) &&& 31)) &&& (3 : Int32))), .val (.long ov), .second, .val (.int (0 : Int32)), .val (.int (0 : Int32)), .val (.int (0 : Int32)), .val (.long pv), .second, .unset] [])) _
        refine XS.iconst X107.here hx rfl (hb hby at_120) ?_
        show Steps p.tables e below (T107.setTop (mkF m 121 #[.val (.long pv), .second, .val (.long qv), .second, .val (.int fv), .val (.ref wB), .val (.int ((fv >>> ((1 : Int32) &&& 31)) &&& (3 : Int32))), .val (.long ov), .second, .val (.int (0 : Int32)), .val (.int (0 : Int32)), .val (.int (0 : Int32)), .val (.long pv), .second, .unset] [(.int (0 : Int32))])) _
        refine XS.iload X107.here hx rfl (hb hby at_121) rfl ?_
        show Steps p.tables e below (T107.setTop (mkF m 123 #[.val (.long pv), .second, .val (.long qv), .second, .val (.int fv), .val (.ref wB), .val (.int ((fv >>> ((1 : Int32) &&& 31)) &&& (3 : Int32))), .val (.long ov), .second, .val (.int (0 : Int32)), .val (.int (0 : Int32)), .val (.int (0 : Int32)), .val (.long pv), .second, .unset] [(.int (0 : Int32)), (.int (0 : Int32))])) _
        refine XS.ifYes X107.here hx rfl (pc0 := 123) (pc' := 130) rfl (hb hby at_123) rfl ((if0 _ _).trans (teq (by decide : (0 : Int32) = (0 : Int32))).1) (by decide) (by decide) ?_
        show Steps p.tables e below (T107.setTop (mkF m 130 #[.val (.long pv), .second, .val (.long qv), .second, .val (.int fv), .val (.ref wB), .val (.int ((fv >>> ((1 : Int32) &&& 31)) &&& (3 : Int32))), .val (.long ov), .second, .val (.int (0 : Int32)), .val (.int (0 : Int32)), .val (.int (0 : Int32)), .val (.long pv), .second, .unset] [(.int (0 : Int32))])) _
        refine XS.iconst X107.here hx rfl (hb hby at_130) ?_
        show Steps p.tables e below (T107.setTop (mkF m 131 #[.val (.long pv), .second, .val (.long qv), .second, .val (.int fv), .val (.ref wB), .val (.int ((fv >>> ((1 : Int32) &&& 31)) &&& (3 : Int32))), .val (.long ov), .second, .val (.int (0 : Int32)), .val (.int (0 : Int32)), .val (.int (0 : Int32)), .val (.long pv), .second, .unset] [(.int (0 : Int32)), (.int (0 : Int32))])) _
        refine XS.iadd X107.here hx rfl (hb hby at_131) rfl ?_
        show Steps p.tables e below (T107.setTop (mkF m 132 #[.val (.long pv), .second, .val (.long qv), .second, .val (.int fv), .val (.ref wB), .val (.int ((fv >>> ((1 : Int32) &&& 31)) &&& (3 : Int32))), .val (.long ov), .second, .val (.int (0 : Int32)), .val (.int (0 : Int32)), .val (.int (0 : Int32)), .val (.long pv), .second, .unset] [(.int ((0 : Int32) + (0 : Int32)))])) _
        refine XS.lloadN X107.here hx rfl (hb hby at_132) rfl ?_
        show Steps p.tables e below (T107.setTop (mkF m 133 #[.val (.long pv), .second, .val (.long qv), .second, .val (.int fv), .val (.ref wB), .val (.int ((fv >>> ((1 : Int32) &&& 31)) &&& (3 : Int32))), .val (.long ov), .second, .val (.int (0 : Int32)), .val (.int (0 : Int32)), .val (.int (0 : Int32)), .val (.long pv), .second, .unset] [(.long pv), (.int ((0 : Int32) + (0 : Int32)))])) _
        refine XS.lload X107.here hx rfl (hb hby at_133) rfl ?_
        show Steps p.tables e below (T107.setTop (mkF m 135 #[.val (.long pv), .second, .val (.long qv), .second, .val (.int fv), .val (.ref wB), .val (.int ((fv >>> ((1 : Int32) &&& 31)) &&& (3 : Int32))), .val (.long ov), .second, .val (.int (0 : Int32)), .val (.int (0 : Int32)), .val (.int (0 : Int32)), .val (.long pv), .second, .unset] [(.long ov), (.long pv), (.int ((0 : Int32) + (0 : Int32)))])) _
        refine XS.lcmp X107.here hx rfl (hb hby at_135) rfl ?_
        show Steps p.tables e below (T107.setTop (mkF m 136 #[.val (.long pv), .second, .val (.long qv), .second, .val (.int fv), .val (.ref wB), .val (.int ((fv >>> ((1 : Int32) &&& 31)) &&& (3 : Int32))), .val (.long ov), .second, .val (.int (0 : Int32)), .val (.int (0 : Int32)), .val (.int (0 : Int32)), .val (.long pv), .second, .unset] [(.int (lcmpW pv ov)), (.int ((0 : Int32) + (0 : Int32)))])) _
        refine XS.ifNo X107.here hx rfl (hb hby at_136) rfl ((if0 _ _).trans (teq ((lw_eq pv ov).mpr hc)).2) ?_
        show Steps p.tables e below (T107.setTop (mkF m 139 #[.val (.long pv), .second, .val (.long qv), .second, .val (.int fv), .val (.ref wB), .val (.int ((fv >>> ((1 : Int32) &&& 31)) &&& (3 : Int32))), .val (.long ov), .second, .val (.int (0 : Int32)), .val (.int (0 : Int32)), .val (.int (0 : Int32)), .val (.long pv), .second, .unset] [(.int ((0 : Int32) + (0 : Int32)))])) _
        refine XS.iconst X107.here hx rfl (hb hby at_139) ?_
        show Steps p.tables e below (T107.setTop (mkF m 140 #[.val (.long pv), .second, .val (.long qv), .second, .val (.int fv), .val (.ref wB), .val (.int ((fv >>> ((1 : Int32) &&& 31)) &&& (3 : Int32))), .val (.long ov), .second, .val (.int (0 : Int32)), .val (.int (0 : Int32)), .val (.int (0 : Int32)), .val (.long pv), .second, .unset] [(.int (1 : Int32)), (.int ((0 : Int32) + (0 : Int32)))])) _
        refine XS.goto X107.here hx rfl (pc0 := 140) (pc' := 144) rfl (hb hby at_140) (by decide) (by decide) ?_
        show Steps p.tables e below (T107.setTop (mkF m 144 #[.val (.long pv), .second, .val (.long qv), .second, .val (.int fv), .val (.ref wB), .val (.int ((fv >>> ((1 : Int32) &&& 31)) &&& (3 : Int32))), .val (.long ov), .second, .val (.int (0 : Int32)), .val (.int (0 : Int32)), .val (.int (0 : Int32)), .val (.long pv), .second, .unset] [(.int (1 : Int32)), (.int ((0 : Int32) + (0 : Int32)))])) _
        refine XS.iadd X107.here hx rfl (hb hby at_144) rfl ?_
        show Steps p.tables e below (T107.setTop (mkF m 145 #[.val (.long pv), .second, .val (.long qv), .second, .val (.int fv), .val (.ref wB), .val (.int ((fv >>> ((1 : Int32) &&& 31)) &&& (3 : Int32))), .val (.long ov), .second, .val (.int (0 : Int32)), .val (.int (0 : Int32)), .val (.int (0 : Int32)), .val (.long pv), .second, .unset] [(.int (((0 : Int32) + (0 : Int32)) + (1 : Int32)))])) _
        refine XS.istore X107.here hx rfl (hb hby at_145) rfl (l' := #[.val (.long pv), .second, .val (.long qv), .second, .val (.int fv), .val (.ref wB), .val (.int ((fv >>> ((1 : Int32) &&& 31)) &&& (3 : Int32))), .val (.long ov), .second, .val (.int (0 : Int32)), .val (.int (0 : Int32)), .val (.int (0 : Int32)), .val (.long pv), .second, .val (.int (((0 : Int32) + (0 : Int32)) + (1 : Int32)))]) rfl ?_
        show Steps p.tables e below (T107.setTop (mkF m 147 #[.val (.long pv), .second, .val (.long qv), .second, .val (.int fv), .val (.ref wB), .val (.int ((fv >>> ((1 : Int32) &&& 31)) &&& (3 : Int32))), .val (.long ov), .second, .val (.int (0 : Int32)), .val (.int (0 : Int32)), .val (.int (0 : Int32)), .val (.long pv), .second, .val (.int (((0 : Int32) + (0 : Int32)) + (1 : Int32)))] [])) _
        refine XS.iload X107.here hx rfl (hb hby at_147) rfl ?_
        show Steps p.tables e below (T107.setTop (mkF m 149 #[.val (.long pv), .second, .val (.long qv), .second, .val (.int fv), .val (.ref wB), .val (.int ((fv >>> ((1 : Int32) &&& 31)) &&& (3 : Int32))), .val (.long ov), .second, .val (.int (0 : Int32)), .val (.int (0 : Int32)), .val (.int (0 : Int32)), .val (.long pv), .second, .val (.int (((0 : Int32) + (0 : Int32)) + (1 : Int32)))] [(.int (((0 : Int32) + (0 : Int32)) + (1 : Int32)))])) _
        refine XS.iconst X107.here hx rfl (hb hby at_149) ?_
        show Steps p.tables e below (T107.setTop (mkF m 150 #[.val (.long pv), .second, .val (.long qv), .second, .val (.int fv), .val (.ref wB), .val (.int ((fv >>> ((1 : Int32) &&& 31)) &&& (3 : Int32))), .val (.long ov), .second, .val (.int (0 : Int32)), .val (.int (0 : Int32)), .val (.int (0 : Int32)), .val (.long pv), .second, .val (.int (((0 : Int32) + (0 : Int32)) + (1 : Int32)))] [(.int (1 : Int32)), (.int (((0 : Int32) + (0 : Int32)) + (1 : Int32)))])) _
        refine XS.icmpYes X107.here hx rfl (pc0 := 150) (pc' := 155) rfl (hb hby at_150) rfl (teq (by decide : (((0 : Int32) + (0 : Int32)) + (1 : Int32)) = (1 : Int32))).1 (by decide) (by decide) ?_
        show Steps p.tables e below (T107.setTop (mkF m 155 #[.val (.long pv), .second, .val (.long qv), .second, .val (.int fv), .val (.ref wB), .val (.int ((fv >>> ((1 : Int32) &&& 31)) &&& (3 : Int32))), .val (.long ov), .second, .val (.int (0 : Int32)), .val (.int (0 : Int32)), .val (.int (0 : Int32)), .val (.long pv), .second, .val (.int (((0 : Int32) + (0 : Int32)) + (1 : Int32)))] [])) _
        refine XS.iload X107.here hx rfl (hb hby at_155) rfl ?_
        show Steps p.tables e below (T107.setTop (mkF m 157 #[.val (.long pv), .second, .val (.long qv), .second, .val (.int fv), .val (.ref wB), .val (.int ((fv >>> ((1 : Int32) &&& 31)) &&& (3 : Int32))), .val (.long ov), .second, .val (.int (0 : Int32)), .val (.int (0 : Int32)), .val (.int (0 : Int32)), .val (.long pv), .second, .val (.int (((0 : Int32) + (0 : Int32)) + (1 : Int32)))] [(.int (0 : Int32))])) _
        refine XS.iload X107.here hx rfl (hb hby at_157) rfl ?_
        show Steps p.tables e below (T107.setTop (mkF m 159 #[.val (.long pv), .second, .val (.long qv), .second, .val (.int fv), .val (.ref wB), .val (.int ((fv >>> ((1 : Int32) &&& 31)) &&& (3 : Int32))), .val (.long ov), .second, .val (.int (0 : Int32)), .val (.int (0 : Int32)), .val (.int (0 : Int32)), .val (.long pv), .second, .val (.int (((0 : Int32) + (0 : Int32)) + (1 : Int32)))] [(.int (0 : Int32)), (.int (0 : Int32))])) _
        refine XS.icmpYes X107.here hx rfl (pc0 := 159) (pc' := 164) rfl (hb hby at_159) rfl (teq (by decide : (0 : Int32) = (0 : Int32))).1 (by decide) (by decide) ?_
        show Steps p.tables e below (T107.setTop (mkF m 164 #[.val (.long pv), .second, .val (.long qv), .second, .val (.int fv), .val (.ref wB), .val (.int ((fv >>> ((1 : Int32) &&& 31)) &&& (3 : Int32))), .val (.long ov), .second, .val (.int (0 : Int32)), .val (.int (0 : Int32)), .val (.int (0 : Int32)), .val (.long pv), .second, .val (.int (((0 : Int32) + (0 : Int32)) + (1 : Int32)))] [])) _
        refine XS.iload X107.here hx rfl (hb hby at_164) rfl ?_
        show Steps p.tables e below (T107.setTop (mkF m 166 #[.val (.long pv), .second, .val (.long qv), .second, .val (.int fv), .val (.ref wB), .val (.int ((fv >>> ((1 : Int32) &&& 31)) &&& (3 : Int32))), .val (.long ov), .second, .val (.int (0 : Int32)), .val (.int (0 : Int32)), .val (.int (0 : Int32)), .val (.long pv), .second, .val (.int (((0 : Int32) + (0 : Int32)) + (1 : Int32)))] [(.int (0 : Int32))])) _
        refine XS.ifYes X107.here hx rfl (pc0 := 166) (pc' := 179) rfl (hb hby at_166) rfl ((if0 _ _).trans (teq (by decide : (0 : Int32) = (0 : Int32))).1) (by decide) (by decide) ?_
        show Steps p.tables e below (T107.setTop (mkF m 179 #[.val (.long pv), .second, .val (.long qv), .second, .val (.int fv), .val (.ref wB), .val (.int ((fv >>> ((1 : Int32) &&& 31)) &&& (3 : Int32))), .val (.long ov), .second, .val (.int (0 : Int32)), .val (.int (0 : Int32)), .val (.int (0 : Int32)), .val (.long pv), .second, .val (.int (((0 : Int32) + (0 : Int32)) + (1 : Int32)))] [])) _
        refine XS.iload X107.here hx rfl (hb hby at_179) rfl ?_
        show Steps p.tables e below (T107.setTop (mkF m 181 #[.val (.long pv), .second, .val (.long qv), .second, .val (.int fv), .val (.ref wB), .val (.int ((fv >>> ((1 : Int32) &&& 31)) &&& (3 : Int32))), .val (.long ov), .second, .val (.int (0 : Int32)), .val (.int (0 : Int32)), .val (.int (0 : Int32)), .val (.long pv), .second, .val (.int (((0 : Int32) + (0 : Int32)) + (1 : Int32)))] [(.int (0 : Int32))])) _
        refine XS.ifYes X107.here hx rfl (pc0 := 181) (pc' := 193) rfl (hb hby at_181) rfl ((if0 _ _).trans (teq (by decide : (0 : Int32) = (0 : Int32))).1) (by decide) (by decide) ?_
        show Steps p.tables e below (T107.setTop (mkF m 193 #[.val (.long pv), .second, .val (.long qv), .second, .val (.int fv), .val (.ref wB), .val (.int ((fv >>> ((1 : Int32) &&& 31)) &&& (3 : Int32))), .val (.long ov), .second, .val (.int (0 : Int32)), .val (.int (0 : Int32)), .val (.int (0 : Int32)), .val (.long pv), .second, .val (.int (((0 : Int32) + (0 : Int32)) + (1 : Int32)))] [])) _
        refine XS.iconst X107.here hx rfl (hb hby at_193) ?_
        show Steps p.tables e below (T107.setTop (mkF m 194 #[.val (.long pv), .second, .val (.long qv), .second, .val (.int fv), .val (.ref wB), .val (.int ((fv >>> ((1 : Int32) &&& 31)) &&& (3 : Int32))), .val (.long ov), .second, .val (.int (0 : Int32)), .val (.int (0 : Int32)), .val (.int (0 : Int32)), .val (.long pv), .second, .val (.int (((0 : Int32) + (0 : Int32)) + (1 : Int32)))] [(.int (1 : Int32))])) _
        exact retN X107 hx (t := .boolean) Bd.returns (by simp) (hb hby at_194) hr
      · show Q0 pv qv fv h0 n0 _ T107.heap _
        exact ⟨rfl, N107⟩
    · have hneg : ¬ (pv < ov) := by simp only [Int64.lt_iff_toInt_lt, ← Int64.toInt_inj] at hc ⊢; omega
      have hneq : ¬ (pv = ov) := by simp only [Int64.lt_iff_toInt_lt, ← Int64.toInt_inj] at hc ⊢; omega
      have ra : (own_ma_b pv ov) = (1 : Int32) := by
        unfold own_ma_b
        first | (rw [if_pos hc]; done) | (rw [if_neg hneg]; done) | (rw [if_neg hneq]; done) | (rw [if_neg (by simp only [Int64.lt_iff_toInt_lt, ← Int64.toInt_inj] at hc ⊢; omega)]; first | done | exact hc.symm) | (rw [if_pos (by simp only [Int64.lt_iff_toInt_lt, ← Int64.toInt_inj] at hc ⊢; omega)]; first | done | exact hc.symm)
      have rb : (own_ma_b ov pv) = (0 : Int32) := by
        unfold own_ma_b
        first | (rw [if_pos hc]; done) | (rw [if_neg hneg]; done) | (rw [if_neg hneq]; done) | (rw [if_neg (by simp only [Int64.lt_iff_toInt_lt, ← Int64.toInt_inj] at hc ⊢; omega)]; first | done | exact hc.symm) | (rw [if_pos (by simp only [Int64.lt_iff_toInt_lt, ← Int64.toInt_inj] at hc ⊢; omega)]; first | done | exact hc.symm)
      have rc : (own_ma_s ov pv) = (1 : Int32) := by
        unfold own_ma_s
        first | (rw [if_pos hc]; done) | (rw [if_neg hneg]; done) | (rw [if_neg hneq]; done) | (rw [if_neg (by simp only [Int64.lt_iff_toInt_lt, ← Int64.toInt_inj] at hc ⊢; omega)]; first | done | exact hc.symm) | (rw [if_pos (by simp only [Int64.lt_iff_toInt_lt, ← Int64.toInt_inj] at hc ⊢; omega)]; first | done | exact hc.symm)
      have rl : (own_la_b pv ov) = ov := by
        unfold own_la_b
        unfold own_min
        first | (rw [if_pos hc]; done) | (rw [if_neg hneg]; done) | (rw [if_neg hneq]; done) | (rw [if_neg (by simp only [Int64.lt_iff_toInt_lt, ← Int64.toInt_inj] at hc ⊢; omega)]; first | done | exact hc.symm) | (rw [if_pos (by simp only [Int64.lt_iff_toInt_lt, ← Int64.toInt_inj] at hc ⊢; omega)]; first | done | exact hc.symm)
      have pre117 : ∀ t, Steps p.tables e below (T107.setTop (mkF m 111 #[.val (.long pv), .second, .val (.long qv), .second, .val (.int fv), .val (.ref wB), .val (.int ((fv >>> ((1 : Int32) &&& 31)) &&& (3 : Int32))), .val (.long ov), .second, .val (.int (1 : Int32)), .val (.int (own_ma_b ov pv)), .val (.int (own_ma_s ov pv)), .val (.long (own_la_b pv ov)), .second, .unset] [])) t → Steps p.tables e below (s₁.setTop (entryFrame m #[(.long pv), (.long qv), (.int fv)] maxLocals)) t := by
        have q := pre108
        rw [ra] at q
        exact q
      have pre118 : ∀ t, Steps p.tables e below (T107.setTop (mkF m 111 #[.val (.long pv), .second, .val (.long qv), .second, .val (.int fv), .val (.ref wB), .val (.int ((fv >>> ((1 : Int32) &&& 31)) &&& (3 : Int32))), .val (.long ov), .second, .val (.int (1 : Int32)), .val (.int (0 : Int32)), .val (.int (own_ma_s ov pv)), .val (.long (own_la_b pv ov)), .second, .unset] [])) t → Steps p.tables e below (s₁.setTop (entryFrame m #[(.long pv), (.long qv), (.int fv)] maxLocals)) t := by
        have q := pre117
        rw [rb] at q
        exact q
      have pre119 : ∀ t, Steps p.tables e below (T107.setTop (mkF m 111 #[.val (.long pv), .second, .val (.long qv), .second, .val (.int fv), .val (.ref wB), .val (.int ((fv >>> ((1 : Int32) &&& 31)) &&& (3 : Int32))), .val (.long ov), .second, .val (.int (1 : Int32)), .val (.int (0 : Int32)), .val (.int (1 : Int32)), .val (.long (own_la_b pv ov)), .second, .unset] [])) t → Steps p.tables e below (s₁.setTop (entryFrame m #[(.long pv), (.long qv), (.int fv)] maxLocals)) t := by
        have q := pre118
        rw [rc] at q
        exact q
      have pre120 : ∀ t, Steps p.tables e below (T107.setTop (mkF m 111 #[.val (.long pv), .second, .val (.long qv), .second, .val (.int fv), .val (.ref wB), .val (.int ((fv >>> ((1 : Int32) &&& 31)) &&& (3 : Int32))), .val (.long ov), .second, .val (.int (1 : Int32)), .val (.int (0 : Int32)), .val (.int (1 : Int32)), .val (.long ov), .second, .unset] [])) t → Steps p.tables e below (s₁.setTop (entryFrame m #[(.long pv), (.long qv), (.int fv)] maxLocals)) t := by
        have q := pre119
        rw [rl] at q
        exact q
      obtain ⟨fs, hr, hrun, hended, hW, hsame⟩ := X107.leave (v := some (.int (1 : Int32))) (fun h => by rw [Bd.returns] at h; cases h)
      refine ⟨_, _, pre120 _ ?_, hrun, hended, _, _, rfl, ?_, ⟨_, rfl⟩, hW, hsame.mono (by decide) (by decide)⟩
      · show Steps p.tables e below (T107.setTop (mkF m 111 #[.val (.long pv), .second, .val (.long qv), .second, .val (.int fv), .val (.ref wB), .val (.int ((fv >>> ((1 : Int32) &&& 31)) &&& (3 : Int32))), .val (.long ov), .second, .val (.int (1 : Int32)), .val (.int (0 : Int32)), .val (.int (1 : Int32)), .val (.long ov), .second, .unset] [])) _
        refine XS.iload X107.here hx rfl (hb hby at_111) rfl ?_
        show Steps p.tables e below (T107.setTop (mkF m 113 #[.val (.long pv), .second, .val (.long qv), .second, .val (.int fv), .val (.ref wB), .val (.int ((fv >>> ((1 : Int32) &&& 31)) &&& (3 : Int32))), .val (.long ov), .second, .val (.int (1 : Int32)), .val (.int (0 : Int32)), .val (.int (1 : Int32)), .val (.long ov), .second, .unset] [(.int (1 : Int32))])) _
        refine XS.ifNo X107.here hx rfl (hb hby at_113) rfl ((if0 _ _).trans (feq (by decide : ¬ ((1 : Int32) = (0 : Int32)))).1) ?_
        show Steps p.tables e below (T107.setTop (mkF m 116 #[.val (.long pv), .second, .val (.long qv), .second, .val (.int fv), .val (.ref wB), .val (.int ((fv >>> ((1 : Int32) &&& 31)) &&& (3 : Int32))), .val (.long ov), .second, .val (.int (1 : Int32)), .val (.int (0 : Int32)), .val (.int (1 : Int32)), .val (.long ov), .second, .unset] [])) _
        refine XS.iconst X107.here hx rfl (hb hby at_116) ?_
        show Steps p.tables e below (T107.setTop (mkF m 117 #[.val (.long pv), .second, .val (.long qv), .second, .val (.int fv), .val (.ref wB), .val (.int ((fv >>> ((1 : Int32) &&& 31)) &&& (3 : Int32))), .val (.long ov), .second, .val (.int (1 : Int32)), .val (.int (0 : Int32)), .val (.int (1 : Int32)), .val (.long ov), .second, .unset] [(.int (1 : Int32))])) _
        refine XS.goto X107.here hx rfl (pc0 := 117) (pc' := 121) rfl (hb hby at_117) (by decide) (by decide) ?_
        show Steps p.tables e below (T107.setTop (mkF m 121 #[.val (.long pv), .second, .val (.long qv), .second, .val (.int fv), .val (.ref wB), .val (.int ((fv >>> ((1 : Int32) &&& 31)) &&& (3 : Int32))), .val (.long ov), .second, .val (.int (1 : Int32)), .val (.int (0 : Int32)), .val (.int (1 : Int32)), .val (.long ov), .second, .unset] [(.int (1 : Int32))])) _
        refine XS.iload X107.here hx rfl (hb hby at_121) rfl ?_
        show Steps p.tables e below (T107.setTop (mkF m 123 #[.val (.long pv), .second, .val (.long qv), .second, .val (.int fv), .val (.ref wB), .val (.int ((fv >>> ((1 : Int32) &&& 31)) &&& (3 : Int32))), .val (.long ov), .second, .val (.int (1 : Int32)), .val (.int (0 : Int32)), .val (.int (1 : Int32)), .val (.long ov), .second, .unset] [(.int (0 : Int32)), (.int (1 : Int32))])) _
        refine XS.ifYes X107.here hx rfl (pc0 := 123) (pc' := 130) rfl (hb hby at_123) rfl ((if0 _ _).trans (teq (by decide : (0 : Int32) = (0 : Int32))).1) (by decide) (by decide) ?_
        show Steps p.tables e below (T107.setTop (mkF m 130 #[.val (.long pv), .second, .val (.long qv), .second, .val (.int fv), .val (.ref wB), .val (.int ((fv >>> ((1 : Int32) &&& 31)) &&& (3 : Int32))), .val (.long ov), .second, .val (.int (1 : Int32)), .val (.int (0 : Int32)), .val (.int (1 : Int32)), .val (.long ov), .second, .unset] [(.int (1 : Int32))])) _
        refine XS.iconst X107.here hx rfl (hb hby at_130) ?_
        show Steps p.tables e below (T107.setTop (mkF m 131 #[.val (.long pv), .second, .val (.long qv), .second, .val (.int fv), .val (.ref wB), .val (.int ((fv >>> ((1 : Int32) &&& 31)) &&& (3 : Int32))), .val (.long ov), .second, .val (.int (1 : Int32)), .val (.int (0 : Int32)), .val (.int (1 : Int32)), .val (.long ov), .second, .unset] [(.int (0 : Int32)), (.int (1 : Int32))])) _
        refine XS.iadd X107.here hx rfl (hb hby at_131) rfl ?_
        show Steps p.tables e below (T107.setTop (mkF m 132 #[.val (.long pv), .second, .val (.long qv), .second, .val (.int fv), .val (.ref wB), .val (.int ((fv >>> ((1 : Int32) &&& 31)) &&& (3 : Int32))), .val (.long ov), .second, .val (.int (1 : Int32)), .val (.int (0 : Int32)), .val (.int (1 : Int32)), .val (.long ov), .second, .unset] [(.int ((1 : Int32) + (0 : Int32)))])) _
        refine XS.lloadN X107.here hx rfl (hb hby at_132) rfl ?_
        show Steps p.tables e below (T107.setTop (mkF m 133 #[.val (.long pv), .second, .val (.long qv), .second, .val (.int fv), .val (.ref wB), .val (.int ((fv >>> ((1 : Int32) &&& 31)) &&& (3 : Int32))), .val (.long ov), .second, .val (.int (1 : Int32)), .val (.int (0 : Int32)), .val (.int (1 : Int32)), .val (.long ov), .second, .unset] [(.long pv), (.int ((1 : Int32) + (0 : Int32)))])) _
        refine XS.lload X107.here hx rfl (hb hby at_133) rfl ?_
        show Steps p.tables e below (T107.setTop (mkF m 135 #[.val (.long pv), .second, .val (.long qv), .second, .val (.int fv), .val (.ref wB), .val (.int ((fv >>> ((1 : Int32) &&& 31)) &&& (3 : Int32))), .val (.long ov), .second, .val (.int (1 : Int32)), .val (.int (0 : Int32)), .val (.int (1 : Int32)), .val (.long ov), .second, .unset] [(.long ov), (.long pv), (.int ((1 : Int32) + (0 : Int32)))])) _
        refine XS.lcmp X107.here hx rfl (hb hby at_135) rfl ?_
        show Steps p.tables e below (T107.setTop (mkF m 136 #[.val (.long pv), .second, .val (.long qv), .second, .val (.int fv), .val (.ref wB), .val (.int ((fv >>> ((1 : Int32) &&& 31)) &&& (3 : Int32))), .val (.long ov), .second, .val (.int (1 : Int32)), .val (.int (0 : Int32)), .val (.int (1 : Int32)), .val (.long ov), .second, .unset] [(.int (lcmpW pv ov)), (.int ((1 : Int32) + (0 : Int32)))])) _
        refine XS.ifYes X107.here hx rfl (pc0 := 136) (pc' := 143) rfl (hb hby at_136) rfl ((if0 _ _).trans (feq (fun q => hneq ((lw_eq pv ov).mp q))).2) (by decide) (by decide) ?_
        show Steps p.tables e below (T107.setTop (mkF m 143 #[.val (.long pv), .second, .val (.long qv), .second, .val (.int fv), .val (.ref wB), .val (.int ((fv >>> ((1 : Int32) &&& 31)) &&& (3 : Int32))), .val (.long ov), .second, .val (.int (1 : Int32)), .val (.int (0 : Int32)), .val (.int (1 : Int32)), .val (.long ov), .second, .unset] [(.int ((1 : Int32) + (0 : Int32)))])) _
        refine XS.iconst X107.here hx rfl (hb hby at_143) ?_
        show Steps p.tables e below (T107.setTop (mkF m 144 #[.val (.long pv), .second, .val (.long qv), .second, .val (.int fv), .val (.ref wB), .val (.int ((fv >>> ((1 : Int32) &&& 31)) &&& (3 : Int32))), .val (.long ov), .second, .val (.int (1 : Int32)), .val (.int (0 : Int32)), .val (.int (1 : Int32)), .val (.long ov), .second, .unset] [(.int (0 : Int32)), (.int ((1 : Int32) + (0 : Int32)))])) _
        refine XS.iadd X107.here hx rfl (hb hby at_144) rfl ?_
        show Steps p.tables e below (T107.setTop (mkF m 145 #[.val (.long pv), .second, .val (.long qv), .second, .val (.int fv), .val (.ref wB), .val (.int ((fv >>> ((1 : Int32) &&& 31)) &&& (3 : Int32))), .val (.long ov), .second, .val (.int (1 : Int32)), .val (.int (0 : Int32)), .val (.int (1 : Int32)), .val (.long ov), .second, .unset] [(.int (((1 : Int32) + (0 : Int32)) + (0 : Int32)))])) _
        refine XS.istore X107.here hx rfl (hb hby at_145) rfl (l' := #[.val (.long pv), .second, .val (.long qv), .second, .val (.int fv), .val (.ref wB), .val (.int ((fv >>> ((1 : Int32) &&& 31)) &&& (3 : Int32))), .val (.long ov), .second, .val (.int (1 : Int32)), .val (.int (0 : Int32)), .val (.int (1 : Int32)), .val (.long ov), .second, .val (.int (((1 : Int32) + (0 : Int32)) + (0 : Int32)))]) rfl ?_
        show Steps p.tables e below (T107.setTop (mkF m 147 #[.val (.long pv), .second, .val (.long qv), .second, .val (.int fv), .val (.ref wB), .val (.int ((fv >>> ((1 : Int32) &&& 31)) &&& (3 : Int32))), .val (.long ov), .second, .val (.int (1 : Int32)), .val (.int (0 : Int32)), .val (.int (1 : Int32)), .val (.long ov), .second, .val (.int (((1 : Int32) + (0 : Int32)) + (0 : Int32)))] [])) _
        refine XS.iload X107.here hx rfl (hb hby at_147) rfl ?_
        show Steps p.tables e below (T107.setTop (mkF m 149 #[.val (.long pv), .second, .val (.long qv), .second, .val (.int fv), .val (.ref wB), .val (.int ((fv >>> ((1 : Int32) &&& 31)) &&& (3 : Int32))), .val (.long ov), .second, .val (.int (1 : Int32)), .val (.int (0 : Int32)), .val (.int (1 : Int32)), .val (.long ov), .second, .val (.int (((1 : Int32) + (0 : Int32)) + (0 : Int32)))] [(.int (((1 : Int32) + (0 : Int32)) + (0 : Int32)))])) _
        refine XS.iconst X107.here hx rfl (hb hby at_149) ?_
        show Steps p.tables e below (T107.setTop (mkF m 150 #[.val (.long pv), .second, .val (.long qv), .second, .val (.int fv), .val (.ref wB), .val (.int ((fv >>> ((1 : Int32) &&& 31)) &&& (3 : Int32))), .val (.long ov), .second, .val (.int (1 : Int32)), .val (.int (0 : Int32)), .val (.int (1 : Int32)), .val (.long ov), .second, .val (.int (((1 : Int32) + (0 : Int32)) + (0 : Int32)))] [(.int (1 : Int32)), (.int (((1 : Int32) + (0 : Int32)) + (0 : Int32)))])) _
        refine XS.icmpYes X107.here hx rfl (pc0 := 150) (pc' := 155) rfl (hb hby at_150) rfl (teq (by decide : (((1 : Int32) + (0 : Int32)) + (0 : Int32)) = (1 : Int32))).1 (by decide) (by decide) ?_
        show Steps p.tables e below (T107.setTop (mkF m 155 #[.val (.long pv), .second, .val (.long qv), .second, .val (.int fv), .val (.ref wB), .val (.int ((fv >>> ((1 : Int32) &&& 31)) &&& (3 : Int32))), .val (.long ov), .second, .val (.int (1 : Int32)), .val (.int (0 : Int32)), .val (.int (1 : Int32)), .val (.long ov), .second, .val (.int (((1 : Int32) + (0 : Int32)) + (0 : Int32)))] [])) _
        refine XS.iload X107.here hx rfl (hb hby at_155) rfl ?_
        show Steps p.tables e below (T107.setTop (mkF m 157 #[.val (.long pv), .second, .val (.long qv), .second, .val (.int fv), .val (.ref wB), .val (.int ((fv >>> ((1 : Int32) &&& 31)) &&& (3 : Int32))), .val (.long ov), .second, .val (.int (1 : Int32)), .val (.int (0 : Int32)), .val (.int (1 : Int32)), .val (.long ov), .second, .val (.int (((1 : Int32) + (0 : Int32)) + (0 : Int32)))] [(.int (1 : Int32))])) _
        refine XS.iload X107.here hx rfl (hb hby at_157) rfl ?_
        show Steps p.tables e below (T107.setTop (mkF m 159 #[.val (.long pv), .second, .val (.long qv), .second, .val (.int fv), .val (.ref wB), .val (.int ((fv >>> ((1 : Int32) &&& 31)) &&& (3 : Int32))), .val (.long ov), .second, .val (.int (1 : Int32)), .val (.int (0 : Int32)), .val (.int (1 : Int32)), .val (.long ov), .second, .val (.int (((1 : Int32) + (0 : Int32)) + (0 : Int32)))] [(.int (1 : Int32)), (.int (1 : Int32))])) _
        refine XS.icmpYes X107.here hx rfl (pc0 := 159) (pc' := 164) rfl (hb hby at_159) rfl (teq (by decide : (1 : Int32) = (1 : Int32))).1 (by decide) (by decide) ?_
        show Steps p.tables e below (T107.setTop (mkF m 164 #[.val (.long pv), .second, .val (.long qv), .second, .val (.int fv), .val (.ref wB), .val (.int ((fv >>> ((1 : Int32) &&& 31)) &&& (3 : Int32))), .val (.long ov), .second, .val (.int (1 : Int32)), .val (.int (0 : Int32)), .val (.int (1 : Int32)), .val (.long ov), .second, .val (.int (((1 : Int32) + (0 : Int32)) + (0 : Int32)))] [])) _
        refine XS.iload X107.here hx rfl (hb hby at_164) rfl ?_
        show Steps p.tables e below (T107.setTop (mkF m 166 #[.val (.long pv), .second, .val (.long qv), .second, .val (.int fv), .val (.ref wB), .val (.int ((fv >>> ((1 : Int32) &&& 31)) &&& (3 : Int32))), .val (.long ov), .second, .val (.int (1 : Int32)), .val (.int (0 : Int32)), .val (.int (1 : Int32)), .val (.long ov), .second, .val (.int (((1 : Int32) + (0 : Int32)) + (0 : Int32)))] [(.int (1 : Int32))])) _
        refine XS.ifNo X107.here hx rfl (hb hby at_166) rfl ((if0 _ _).trans (feq (by decide : ¬ ((1 : Int32) = (0 : Int32)))).1) ?_
        show Steps p.tables e below (T107.setTop (mkF m 169 #[.val (.long pv), .second, .val (.long qv), .second, .val (.int fv), .val (.ref wB), .val (.int ((fv >>> ((1 : Int32) &&& 31)) &&& (3 : Int32))), .val (.long ov), .second, .val (.int (1 : Int32)), .val (.int (0 : Int32)), .val (.int (1 : Int32)), .val (.long ov), .second, .val (.int (((1 : Int32) + (0 : Int32)) + (0 : Int32)))] [])) _
        refine XS.lload X107.here hx rfl (hb hby at_169) rfl ?_
        show Steps p.tables e below (T107.setTop (mkF m 171 #[.val (.long pv), .second, .val (.long qv), .second, .val (.int fv), .val (.ref wB), .val (.int ((fv >>> ((1 : Int32) &&& 31)) &&& (3 : Int32))), .val (.long ov), .second, .val (.int (1 : Int32)), .val (.int (0 : Int32)), .val (.int (1 : Int32)), .val (.long ov), .second, .val (.int (((1 : Int32) + (0 : Int32)) + (0 : Int32)))] [(.long ov)])) _
        refine XS.lload X107.here hx rfl (hb hby at_171) rfl ?_
        show Steps p.tables e below (T107.setTop (mkF m 173 #[.val (.long pv), .second, .val (.long qv), .second, .val (.int fv), .val (.ref wB), .val (.int ((fv >>> ((1 : Int32) &&& 31)) &&& (3 : Int32))), .val (.long ov), .second, .val (.int (1 : Int32)), .val (.int (0 : Int32)), .val (.int (1 : Int32)), .val (.long ov), .second, .val (.int (((1 : Int32) + (0 : Int32)) + (0 : Int32)))] [(.long ov), (.long ov)])) _
        refine XS.lcmp X107.here hx rfl (hb hby at_173) rfl ?_
        show Steps p.tables e below (T107.setTop (mkF m 174 #[.val (.long pv), .second, .val (.long qv), .second, .val (.int fv), .val (.ref wB), .val (.int ((fv >>> ((1 : Int32) &&& 31)) &&& (3 : Int32))), .val (.long ov), .second, .val (.int (1 : Int32)), .val (.int (0 : Int32)), .val (.int (1 : Int32)), .val (.long ov), .second, .val (.int (((1 : Int32) + (0 : Int32)) + (0 : Int32)))] [(.int (lcmpW ov ov))])) _
        refine XS.ifYes X107.here hx rfl (pc0 := 174) (pc' := 179) rfl (hb hby at_174) rfl ((if0 _ _).trans (teq ((lw_eq ov ov).mpr (rfl : ov = ov))).1) (by decide) (by decide) ?_
        show Steps p.tables e below (T107.setTop (mkF m 179 #[.val (.long pv), .second, .val (.long qv), .second, .val (.int fv), .val (.ref wB), .val (.int ((fv >>> ((1 : Int32) &&& 31)) &&& (3 : Int32))), .val (.long ov), .second, .val (.int (1 : Int32)), .val (.int (0 : Int32)), .val (.int (1 : Int32)), .val (.long ov), .second, .val (.int (((1 : Int32) + (0 : Int32)) + (0 : Int32)))] [])) _
        refine XS.iload X107.here hx rfl (hb hby at_179) rfl ?_
        show Steps p.tables e below (T107.setTop (mkF m 181 #[.val (.long pv), .second, .val (.long qv), .second, .val (.int fv), .val (.ref wB), .val (.int ((fv >>> ((1 : Int32) &&& 31)) &&& (3 : Int32))), .val (.long ov), .second, .val (.int (1 : Int32)), .val (.int (0 : Int32)), .val (.int (1 : Int32)), .val (.long ov), .second, .val (.int (((1 : Int32) + (0 : Int32)) + (0 : Int32)))] [(.int (0 : Int32))])) _
        refine XS.ifYes X107.here hx rfl (pc0 := 181) (pc' := 193) rfl (hb hby at_181) rfl ((if0 _ _).trans (teq (by decide : (0 : Int32) = (0 : Int32))).1) (by decide) (by decide) ?_
        show Steps p.tables e below (T107.setTop (mkF m 193 #[.val (.long pv), .second, .val (.long qv), .second, .val (.int fv), .val (.ref wB), .val (.int ((fv >>> ((1 : Int32) &&& 31)) &&& (3 : Int32))), .val (.long ov), .second, .val (.int (1 : Int32)), .val (.int (0 : Int32)), .val (.int (1 : Int32)), .val (.long ov), .second, .val (.int (((1 : Int32) + (0 : Int32)) + (0 : Int32)))] [])) _
        refine XS.iconst X107.here hx rfl (hb hby at_193) ?_
        show Steps p.tables e below (T107.setTop (mkF m 194 #[.val (.long pv), .second, .val (.long qv), .second, .val (.int fv), .val (.ref wB), .val (.int ((fv >>> ((1 : Int32) &&& 31)) &&& (3 : Int32))), .val (.long ov), .second, .val (.int (1 : Int32)), .val (.int (0 : Int32)), .val (.int (1 : Int32)), .val (.long ov), .second, .val (.int (((1 : Int32) + (0 : Int32)) + (0 : Int32)))] [(.int (1 : Int32))])) _
        exact retN X107 hx (t := .boolean) Bd.returns (by simp) (hb hby at_194) hr
      · show Q0 pv qv fv h0 n0 _ T107.heap _
        exact ⟨rfl, N107⟩
  · have pre121 : ∀ t, Steps p.tables e below (s₁.setTop (mkF m 13 #[.val (.long pv), .second, .val (.long qv), .second, .val (.int fv), .unset, .unset, .unset, .unset, .unset, .unset, .unset, .unset, .unset, .unset] [])) t → Steps p.tables e below (s₁.setTop (entryFrame m #[(.long pv), (.long qv), (.int fv)] maxLocals)) t := fun t k => by
      refine pre87 _ ?_
      show Steps p.tables e below (s₁.setTop (mkF m 4 #[.val (.long pv), .second, .val (.long qv), .second, .val (.int fv), .unset, .unset, .unset, .unset, .unset, .unset, .unset, .unset, .unset, .unset] [(.int (fv &&& (1 : Int32)))])) _
      refine XS.ifYes X0.here hx rfl (pc0 := 4) (pc' := 13) rfl (hb hby at_4) rfl ((if0 _ _).trans (feq c88).2) (by decide) (by decide) ?_
      show Steps p.tables e below (s₁.setTop (mkF m 13 #[.val (.long pv), .second, .val (.long qv), .second, .val (.int fv), .unset, .unset, .unset, .unset, .unset, .unset, .unset, .unset, .unset, .unset] [])) _
      exact k
    obtain ⟨T123, X123, e123, st123⟩ := getS2 X0 hx hZ hown (host := "") (Or.inl (hw _ (List.mem_of_getElem? (i := 25) rfl))) Via.refl e0 S_S (g := (mkF m 13 #[.val (.long pv), .second, .val (.long qv), .second, .val (.int fv), .unset, .unset, .unset, .unset, .unset, .unset, .unset, .unset, .unset, .unset] [])) rfl (hb hby at_13)
    have pre123 : ∀ t, Steps p.tables e below (T123.setTop (mkF m 16 #[.val (.long pv), .second, .val (.long qv), .second, .val (.int fv), .unset, .unset, .unset, .unset, .unset, .unset, .unset, .unset, .unset, .unset] [(.ref wS)])) t → Steps p.tables e below (s₁.setTop (entryFrame m #[(.long pv), (.long qv), (.int fv)] maxLocals)) t := fun t k => pre121 _ (st123 t k)
    have pre124 : ∀ t, Steps p.tables e below (T123.setTop (mkF m 26 #[.val (.long pv), .second, .val (.long qv), .second, .val (.int fv), .val (.ref wS), .val (.int ((fv >>> ((1 : Int32) &&& 31)) &&& (3 : Int32))), .unset, .unset, .unset, .unset, .unset, .unset, .unset, .unset] [])) t → Steps p.tables e below (s₁.setTop (entryFrame m #[(.long pv), (.long qv), (.int fv)] maxLocals)) t := fun t k => by
      refine pre123 _ ?_
      show Steps p.tables e below (T123.setTop (mkF m 16 #[.val (.long pv), .second, .val (.long qv), .second, .val (.int fv), .unset, .unset, .unset, .unset, .unset, .unset, .unset, .unset, .unset, .unset] [(.ref wS)])) _
      refine XS.astore X123.here hx rfl (hb hby at_16) rfl rfl (l' := #[.val (.long pv), .second, .val (.long qv), .second, .val (.int fv), .val (.ref wS), .unset, .unset, .unset, .unset, .unset, .unset, .unset, .unset, .unset]) rfl ?_
      show Steps p.tables e below (T123.setTop (mkF m 18 #[.val (.long pv), .second, .val (.long qv), .second, .val (.int fv), .val (.ref wS), .unset, .unset, .unset, .unset, .unset, .unset, .unset, .unset, .unset] [])) _
      refine XS.iload X123.here hx rfl (hb hby at_18) rfl ?_
      show Steps p.tables e below (T123.setTop (mkF m 20 #[.val (.long pv), .second, .val (.long qv), .second, .val (.int fv), .val (.ref wS), .unset, .unset, .unset, .unset, .unset, .unset, .unset, .unset, .unset] [(.int fv)])) _
      refine XS.iconst X123.here hx rfl (hb hby at_20) ?_
      show Steps p.tables e below (T123.setTop (mkF m 21 #[.val (.long pv), .second, .val (.long qv), .second, .val (.int fv), .val (.ref wS), .unset, .unset, .unset, .unset, .unset, .unset, .unset, .unset, .unset] [(.int (1 : Int32)), (.int fv)])) _
      refine XS.ishr X123.here hx rfl (hb hby at_21) rfl ?_
      show Steps p.tables e below (T123.setTop (mkF m 22 #[.val (.long pv), .second, .val (.long qv), .second, .val (.int fv), .val (.ref wS), .unset, .unset, .unset, .unset, .unset, .unset, .unset, .unset, .unset] [(.int (fv >>> ((1 : Int32) &&& 31)))])) _
      refine XS.iconst X123.here hx rfl (hb hby at_22) ?_
      show Steps p.tables e below (T123.setTop (mkF m 23 #[.val (.long pv), .second, .val (.long qv), .second, .val (.int fv), .val (.ref wS), .unset, .unset, .unset, .unset, .unset, .unset, .unset, .unset, .unset] [(.int (3 : Int32)), (.int (fv >>> ((1 : Int32) &&& 31)))])) _
      refine XS.iand X123.here hx rfl (hb hby at_23) rfl ?_
      show Steps p.tables e below (T123.setTop (mkF m 24 #[.val (.long pv), .second, .val (.long qv), .second, .val (.int fv), .val (.ref wS), .unset, .unset, .unset, .unset, .unset, .unset, .unset, .unset, .unset] [(.int ((fv >>> ((1 : Int32) &&& 31)) &&& (3 : Int32)))])) _
      refine XS.istore X123.here hx rfl (hb hby at_24) rfl (l' := #[.val (.long pv), .second, .val (.long qv), .second, .val (.int fv), .val (.ref wS), .val (.int ((fv >>> ((1 : Int32) &&& 31)) &&& (3 : Int32))), .unset, .unset, .unset, .unset, .unset, .unset, .unset, .unset]) rfl ?_
      show Steps p.tables e below (T123.setTop (mkF m 26 #[.val (.long pv), .second, .val (.long qv), .second, .val (.int fv), .val (.ref wS), .val (.int ((fv >>> ((1 : Int32) &&& 31)) &&& (3 : Int32))), .unset, .unset, .unset, .unset, .unset, .unset, .unset, .unset] [])) _
      exact k
    have pre125 : ∀ t, Steps p.tables e below (T123.setTop (mkF m 68 #[.val (.long pv), .second, .val (.long qv), .second, .val (.int fv), .val (.ref wS), .val (.int ((fv >>> ((1 : Int32) &&& 31)) &&& (3 : Int32))), .val (.long (own_o pv qv fv)), .second, .unset, .unset, .unset, .unset, .unset, .unset] [])) t → Steps p.tables e below (s₁.setTop (entryFrame m #[(.long pv), (.long qv), (.int fv)] maxLocals)) t := fun t k => by
      refine pre124 _ ?_
      show Steps p.tables e below (T123.setTop (mkF m 26 #[.val (.long pv), .second, .val (.long qv), .second, .val (.int fv), .val (.ref wS), .val (.int ((fv >>> ((1 : Int32) &&& 31)) &&& (3 : Int32))), .unset, .unset, .unset, .unset, .unset, .unset, .unset, .unset] [])) _
      refine XS.iload X123.here hx rfl (hb hby at_26) rfl ?_
      show Steps p.tables e below (T123.setTop (mkF m 28 #[.val (.long pv), .second, .val (.long qv), .second, .val (.int fv), .val (.ref wS), .val (.int ((fv >>> ((1 : Int32) &&& 31)) &&& (3 : Int32))), .unset, .unset, .unset, .unset, .unset, .unset, .unset, .unset] [(.int ((fv >>> ((1 : Int32) &&& 31)) &&& (3 : Int32)))])) _
      by_cases c126 : ((fv >>> ((1 : Int32) &&& 31)) &&& (3 : Int32)) = (0 : Int32)
      · refine XS.ifNo X123.here hx rfl (hb hby at_28) rfl ((if0 _ _).trans (teq c126).2) ?_
        show Steps p.tables e below (T123.setTop (mkF m 31 #[.val (.long pv), .second, .val (.long qv), .second, .val (.int fv), .val (.ref wS), .val (.int ((fv >>> ((1 : Int32) &&& 31)) &&& (3 : Int32))), .unset, .unset, .unset, .unset, .unset, .unset, .unset, .unset] [])) _
        refine XS.lloadN X123.here hx rfl (hb hby at_31) rfl ?_
        show Steps p.tables e below (T123.setTop (mkF m 32 #[.val (.long pv), .second, .val (.long qv), .second, .val (.int fv), .val (.ref wS), .val (.int ((fv >>> ((1 : Int32) &&& 31)) &&& (3 : Int32))), .unset, .unset, .unset, .unset, .unset, .unset, .unset, .unset] [(.long qv)])) _
        refine XS.lstore X123.here hx rfl (hb hby at_32) rfl (l' := #[.val (.long pv), .second, .val (.long qv), .second, .val (.int fv), .val (.ref wS), .val (.int ((fv >>> ((1 : Int32) &&& 31)) &&& (3 : Int32))), .val (.long qv), .second, .unset, .unset, .unset, .unset, .unset, .unset]) rfl ?_
        show Steps p.tables e below (T123.setTop (mkF m 34 #[.val (.long pv), .second, .val (.long qv), .second, .val (.int fv), .val (.ref wS), .val (.int ((fv >>> ((1 : Int32) &&& 31)) &&& (3 : Int32))), .val (.long qv), .second, .unset, .unset, .unset, .unset, .unset, .unset] [])) _
        refine XS.goto X123.here hx rfl (pc0 := 34) (pc' := 68) rfl (hb hby at_34) (by decide) (by decide) ?_
        show Steps p.tables e below (T123.setTop (mkF m 68 #[.val (.long pv), .second, .val (.long qv), .second, .val (.int fv), .val (.ref wS), .val (.int ((fv >>> ((1 : Int32) &&& 31)) &&& (3 : Int32))), .val (.long qv), .second, .unset, .unset, .unset, .unset, .unset, .unset] [])) _
        have hv : own_o pv qv fv = qv := by unfold own_o; rw [if_pos c126]
        rw [hv] at k
        exact k
      · refine XS.ifYes X123.here hx rfl (pc0 := 28) (pc' := 37) rfl (hb hby at_28) rfl ((if0 _ _).trans (feq c126).2) (by decide) (by decide) ?_
        show Steps p.tables e below (T123.setTop (mkF m 37 #[.val (.long pv), .second, .val (.long qv), .second, .val (.int fv), .val (.ref wS), .val (.int ((fv >>> ((1 : Int32) &&& 31)) &&& (3 : Int32))), .unset, .unset, .unset, .unset, .unset, .unset, .unset, .unset] [])) _
        refine XS.iload X123.here hx rfl (hb hby at_37) rfl ?_
        show Steps p.tables e below (T123.setTop (mkF m 39 #[.val (.long pv), .second, .val (.long qv), .second, .val (.int fv), .val (.ref wS), .val (.int ((fv >>> ((1 : Int32) &&& 31)) &&& (3 : Int32))), .unset, .unset, .unset, .unset, .unset, .unset, .unset, .unset] [(.int ((fv >>> ((1 : Int32) &&& 31)) &&& (3 : Int32)))])) _
        refine XS.iconst X123.here hx rfl (hb hby at_39) ?_
        show Steps p.tables e below (T123.setTop (mkF m 40 #[.val (.long pv), .second, .val (.long qv), .second, .val (.int fv), .val (.ref wS), .val (.int ((fv >>> ((1 : Int32) &&& 31)) &&& (3 : Int32))), .unset, .unset, .unset, .unset, .unset, .unset, .unset, .unset] [(.int (1 : Int32)), (.int ((fv >>> ((1 : Int32) &&& 31)) &&& (3 : Int32)))])) _
        by_cases c127 : ((fv >>> ((1 : Int32) &&& 31)) &&& (3 : Int32)) = (1 : Int32)
        · refine XS.icmpNo X123.here hx rfl (hb hby at_40) rfl (teq c127).2 ?_
          show Steps p.tables e below (T123.setTop (mkF m 43 #[.val (.long pv), .second, .val (.long qv), .second, .val (.int fv), .val (.ref wS), .val (.int ((fv >>> ((1 : Int32) &&& 31)) &&& (3 : Int32))), .unset, .unset, .unset, .unset, .unset, .unset, .unset, .unset] [])) _
          refine XS.lloadN X123.here hx rfl (hb hby at_43) rfl ?_
          show Steps p.tables e below (T123.setTop (mkF m 44 #[.val (.long pv), .second, .val (.long qv), .second, .val (.int fv), .val (.ref wS), .val (.int ((fv >>> ((1 : Int32) &&& 31)) &&& (3 : Int32))), .unset, .unset, .unset, .unset, .unset, .unset, .unset, .unset] [(.long pv)])) _
          refine XS.lstore X123.here hx rfl (hb hby at_44) rfl (l' := #[.val (.long pv), .second, .val (.long qv), .second, .val (.int fv), .val (.ref wS), .val (.int ((fv >>> ((1 : Int32) &&& 31)) &&& (3 : Int32))), .val (.long pv), .second, .unset, .unset, .unset, .unset, .unset, .unset]) rfl ?_
          show Steps p.tables e below (T123.setTop (mkF m 46 #[.val (.long pv), .second, .val (.long qv), .second, .val (.int fv), .val (.ref wS), .val (.int ((fv >>> ((1 : Int32) &&& 31)) &&& (3 : Int32))), .val (.long pv), .second, .unset, .unset, .unset, .unset, .unset, .unset] [])) _
          refine XS.goto X123.here hx rfl (pc0 := 46) (pc' := 68) rfl (hb hby at_46) (by decide) (by decide) ?_
          show Steps p.tables e below (T123.setTop (mkF m 68 #[.val (.long pv), .second, .val (.long qv), .second, .val (.int fv), .val (.ref wS), .val (.int ((fv >>> ((1 : Int32) &&& 31)) &&& (3 : Int32))), .val (.long pv), .second, .unset, .unset, .unset, .unset, .unset, .unset] [])) _
          have hv : own_o pv qv fv = pv := by unfold own_o; rw [if_neg c126, if_pos c127]
          rw [hv] at k
          exact k
        · refine XS.icmpYes X123.here hx rfl (pc0 := 40) (pc' := 49) rfl (hb hby at_40) rfl (feq c127).2 (by decide) (by decide) ?_
          show Steps p.tables e below (T123.setTop (mkF m 49 #[.val (.long pv), .second, .val (.long qv), .second, .val (.int fv), .val (.ref wS), .val (.int ((fv >>> ((1 : Int32) &&& 31)) &&& (3 : Int32))), .unset, .unset, .unset, .unset, .unset, .unset, .unset, .unset] [])) _
          refine XS.iload X123.here hx rfl (hb hby at_49) rfl ?_
          show Steps p.tables e below (T123.setTop (mkF m 51 #[.val (.long pv), .second, .val (.long qv), .second, .val (.int fv), .val (.ref wS), .val (.int ((fv >>> ((1 : Int32) &&& 31)) &&& (3 : Int32))), .unset, .unset, .unset, .unset, .unset, .unset, .unset, .unset] [(.int ((fv >>> ((1 : Int32) &&& 31)) &&& (3 : Int32)))])) _
          refine XS.iconst X123.here hx rfl (hb hby at_51) ?_
          show Steps p.tables e below (T123.setTop (mkF m 52 #[.val (.long pv), .second, .val (.long qv), .second, .val (.int fv), .val (.ref wS), .val (.int ((fv >>> ((1 : Int32) &&& 31)) &&& (3 : Int32))), .unset, .unset, .unset, .unset, .unset, .unset, .unset, .unset] [(.int (2 : Int32)), (.int ((fv >>> ((1 : Int32) &&& 31)) &&& (3 : Int32)))])) _
          by_cases c128 : ((fv >>> ((1 : Int32) &&& 31)) &&& (3 : Int32)) = (2 : Int32)
          · refine XS.icmpNo X123.here hx rfl (hb hby at_52) rfl (teq c128).2 ?_
            show Steps p.tables e below (T123.setTop (mkF m 55 #[.val (.long pv), .second, .val (.long qv), .second, .val (.int fv), .val (.ref wS), .val (.int ((fv >>> ((1 : Int32) &&& 31)) &&& (3 : Int32))), .unset, .unset, .unset, .unset, .unset, .unset, .unset, .unset] [])) _
            refine XS.lloadN X123.here hx rfl (hb hby at_55) rfl ?_
            show Steps p.tables e below (T123.setTop (mkF m 56 #[.val (.long pv), .second, .val (.long qv), .second, .val (.int fv), .val (.ref wS), .val (.int ((fv >>> ((1 : Int32) &&& 31)) &&& (3 : Int32))), .unset, .unset, .unset, .unset, .unset, .unset, .unset, .unset] [(.long pv)])) _
            refine XS.lconst X123.here hx rfl (hb hby at_56) ?_
            show Steps p.tables e below (T123.setTop (mkF m 57 #[.val (.long pv), .second, .val (.long qv), .second, .val (.int fv), .val (.ref wS), .val (.int ((fv >>> ((1 : Int32) &&& 31)) &&& (3 : Int32))), .unset, .unset, .unset, .unset, .unset, .unset, .unset, .unset] [(.long (1 : Int64)), (.long pv)])) _
            refine XS.ladd X123.here hx rfl (hb hby at_57) rfl ?_
            show Steps p.tables e below (T123.setTop (mkF m 58 #[.val (.long pv), .second, .val (.long qv), .second, .val (.int fv), .val (.ref wS), .val (.int ((fv >>> ((1 : Int32) &&& 31)) &&& (3 : Int32))), .unset, .unset, .unset, .unset, .unset, .unset, .unset, .unset] [(.long (pv + (1 : Int64)))])) _
            refine XS.lstore X123.here hx rfl (hb hby at_58) rfl (l' := #[.val (.long pv), .second, .val (.long qv), .second, .val (.int fv), .val (.ref wS), .val (.int ((fv >>> ((1 : Int32) &&& 31)) &&& (3 : Int32))), .val (.long (pv + (1 : Int64))), .second, .unset, .unset, .unset, .unset, .unset, .unset]) rfl ?_
            show Steps p.tables e below (T123.setTop (mkF m 60 #[.val (.long pv), .second, .val (.long qv), .second, .val (.int fv), .val (.ref wS), .val (.int ((fv >>> ((1 : Int32) &&& 31)) &&& (3 : Int32))), .val (.long (pv + (1 : Int64))), .second, .unset, .unset, .unset, .unset, .unset, .unset] [])) _
            refine XS.goto X123.here hx rfl (pc0 := 60) (pc' := 68) rfl (hb hby at_60) (by decide) (by decide) ?_
            show Steps p.tables e below (T123.setTop (mkF m 68 #[.val (.long pv), .second, .val (.long qv), .second, .val (.int fv), .val (.ref wS), .val (.int ((fv >>> ((1 : Int32) &&& 31)) &&& (3 : Int32))), .val (.long (pv + (1 : Int64))), .second, .unset, .unset, .unset, .unset, .unset, .unset] [])) _
            have hv : own_o pv qv fv = (pv + (1 : Int64)) := by unfold own_o; rw [if_neg c126, if_neg c127, if_pos c128]
            rw [hv] at k
            exact k
          · refine XS.icmpYes X123.here hx rfl (pc0 := 52) (pc' := 63) rfl (hb hby at_52) rfl (feq c128).2 (by decide) (by decide) ?_
            show Steps p.tables e below (T123.setTop (mkF m 63 #[.val (.long pv), .second, .val (.long qv), .second, .val (.int fv), .val (.ref wS), .val (.int ((fv >>> ((1 : Int32) &&& 31)) &&& (3 : Int32))), .unset, .unset, .unset, .unset, .unset, .unset, .unset, .unset] [])) _
            refine XS.lloadN X123.here hx rfl (hb hby at_63) rfl ?_
            show Steps p.tables e below (T123.setTop (mkF m 64 #[.val (.long pv), .second, .val (.long qv), .second, .val (.int fv), .val (.ref wS), .val (.int ((fv >>> ((1 : Int32) &&& 31)) &&& (3 : Int32))), .unset, .unset, .unset, .unset, .unset, .unset, .unset, .unset] [(.long pv)])) _
            refine XS.lconst X123.here hx rfl (hb hby at_64) ?_
            show Steps p.tables e below (T123.setTop (mkF m 65 #[.val (.long pv), .second, .val (.long qv), .second, .val (.int fv), .val (.ref wS), .val (.int ((fv >>> ((1 : Int32) &&& 31)) &&& (3 : Int32))), .unset, .unset, .unset, .unset, .unset, .unset, .unset, .unset] [(.long (1 : Int64)), (.long pv)])) _
            refine XS.lsub X123.here hx rfl (hb hby at_65) rfl ?_
            show Steps p.tables e below (T123.setTop (mkF m 66 #[.val (.long pv), .second, .val (.long qv), .second, .val (.int fv), .val (.ref wS), .val (.int ((fv >>> ((1 : Int32) &&& 31)) &&& (3 : Int32))), .unset, .unset, .unset, .unset, .unset, .unset, .unset, .unset] [(.long (pv - (1 : Int64)))])) _
            refine XS.lstore X123.here hx rfl (hb hby at_66) rfl (l' := #[.val (.long pv), .second, .val (.long qv), .second, .val (.int fv), .val (.ref wS), .val (.int ((fv >>> ((1 : Int32) &&& 31)) &&& (3 : Int32))), .val (.long (pv - (1 : Int64))), .second, .unset, .unset, .unset, .unset, .unset, .unset]) rfl ?_
            show Steps p.tables e below (T123.setTop (mkF m 68 #[.val (.long pv), .second, .val (.long qv), .second, .val (.int fv), .val (.ref wS), .val (.int ((fv >>> ((1 : Int32) &&& 31)) &&& (3 : Int32))), .val (.long (pv - (1 : Int64))), .second, .unset, .unset, .unset, .unset, .unset, .unset] [])) _
            have hv : own_o pv qv fv = (pv - (1 : Int64)) := by unfold own_o; rw [if_neg c126, if_neg c127, if_neg c128]
            rw [hv] at k
            exact k
    obtain ⟨ov, e_ov⟩ : ∃ z : Int64, z = (own_o pv qv fv) := ⟨_, rfl⟩
    have pre129 : ∀ t, Steps p.tables e below (T123.setTop (mkF m 68 #[.val (.long pv), .second, .val (.long qv), .second, .val (.int fv), .val (.ref wS), .val (.int ((fv >>> ((1 : Int32) &&& 31)) &&& (3 : Int32))), .val (.long ov), .second, .unset, .unset, .unset, .unset, .unset, .unset] [])) t → Steps p.tables e below (s₁.setTop (entryFrame m #[(.long pv), (.long qv), (.int fv)] maxLocals)) t := by rw [e_ov]; exact pre125
    have pre130 : ∀ t, Steps p.tables e below (T123.setTop (mkF m 73 #[.val (.long pv), .second, .val (.long qv), .second, .val (.int fv), .val (.ref wS), .val (.int ((fv >>> ((1 : Int32) &&& 31)) &&& (3 : Int32))), .val (.long ov), .second, .unset, .unset, .unset, .unset, .unset, .unset] [(.long ov), (.long pv), (.ref wS)])) t → Steps p.tables e below (s₁.setTop (entryFrame m #[(.long pv), (.long qv), (.int fv)] maxLocals)) t := fun t k => by
      refine pre129 _ ?_
      show Steps p.tables e below (T123.setTop (mkF m 68 #[.val (.long pv), .second, .val (.long qv), .second, .val (.int fv), .val (.ref wS), .val (.int ((fv >>> ((1 : Int32) &&& 31)) &&& (3 : Int32))), .val (.long ov), .second, .unset, .unset, .unset, .unset, .unset, .unset] [])) _
      refine XS.aload X123.here hx rfl (hb hby at_68) rfl rfl ?_
      show Steps p.tables e below (T123.setTop (mkF m 70 #[.val (.long pv), .second, .val (.long qv), .second, .val (.int fv), .val (.ref wS), .val (.int ((fv >>> ((1 : Int32) &&& 31)) &&& (3 : Int32))), .val (.long ov), .second, .unset, .unset, .unset, .unset, .unset, .unset] [(.ref wS)])) _
      refine XS.lloadN X123.here hx rfl (hb hby at_70) rfl ?_
      show Steps p.tables e below (T123.setTop (mkF m 71 #[.val (.long pv), .second, .val (.long qv), .second, .val (.int fv), .val (.ref wS), .val (.int ((fv >>> ((1 : Int32) &&& 31)) &&& (3 : Int32))), .val (.long ov), .second, .unset, .unset, .unset, .unset, .unset, .unset] [(.long pv), (.ref wS)])) _
      refine XS.lload X123.here hx rfl (hb hby at_71) rfl ?_
      show Steps p.tables e below (T123.setTop (mkF m 73 #[.val (.long pv), .second, .val (.long qv), .second, .val (.int fv), .val (.ref wS), .val (.int ((fv >>> ((1 : Int32) &&& 31)) &&& (3 : Int32))), .val (.long ov), .second, .unset, .unset, .unset, .unset, .unset, .unset] [(.long ov), (.long pv), (.ref wS)])) _
      exact k
    obtain ⟨cq131, kq131, q131a, q131b, q131c⟩ := isOf hZ e123 E_S
    obtain ⟨_, _, ⟨T131, L131, k131, n131⟩, -, X131, ⟨Lc131, hQ131, l131, y131, z131⟩, st131⟩ := X123.virtualBack hx (y := (⟨"com/example/tidebook/tidebook/book/Side", "isMoreAggressive", "(JJ)Z"⟩ : MethodName)) (z := (⟨"com/example/tidebook/tidebook/book/Side", "isMoreAggressive", "(JJ)Z"⟩ : MethodName)) hown (mvT hZ (hw _ (List.mem_of_getElem? (i := 3) rfl))) (mvT hZ (hw _ (List.mem_of_getElem? (i := 4) rfl))) (notFace_of_selects (args := #[]) (mvT hZ (hw _ (List.mem_of_getElem? (i := 6) rfl)))) (mvT hZ (hw _ (List.mem_of_getElem? (i := 6) rfl))) (mvT hZ (hw _ (List.mem_of_getElem? (i := 5) rfl))) (by decide) (backOf (W := 0) (rm1_s l Z aZ hw [] wS pv ov wB h0 n0 Z0 S_B S_S hne) hZ (hw _ (List.mem_of_getElem? (i := 7) rfl)) (hw _ (List.mem_of_getElem? (i := 1) rfl)) (by decide) (by decide)) q131a q131c (g := (mkF m 73 #[.val (.long pv), .second, .val (.long qv), .second, .val (.int fv), .val (.ref wS), .val (.int ((fv >>> ((1 : Int32) &&& 31)) &&& (3 : Int32))), .val (.long ov), .second, .unset, .unset, .unset, .unset, .unset, .unset] [(.long ov), (.long pv), (.ref wS)])) rfl (by rw [hml]; rfl) (Steps.refl _) (argsL := [(.long pv), (.long ov)]) (rest := []) (lenOf pd_0 rfl) rfl (by show 2 * 0 + _ ≤ _; exact Nat.le_of_eq rfl) (hb hby at_73) (fun _ _ => ⟨rfl, e123, (by decide : 0 + 0 ≤ _), (by decide : 0 + 0 ≤ _)⟩)
    dsimp only [Pt.U, Pt.locs, Pt.cells, Pt.slots] at X131 l131 y131 z131 st131 hQ131
    subst l131 y131 z131
    obtain ⟨rfl, N131q, e131⟩ := hQ131
    have N131 := Fr.app N0 N131q
    have pre131 : ∀ t, Steps p.tables e below (T131.setTop (mkF m 76 #[.val (.long pv), .second, .val (.long qv), .second, .val (.int fv), .val (.ref wS), .val (.int ((fv >>> ((1 : Int32) &&& 31)) &&& (3 : Int32))), .val (.long ov), .second, .unset, .unset, .unset, .unset, .unset, .unset] [(.int (own_ma_s pv ov))])) t → Steps p.tables e below (s₁.setTop (entryFrame m #[(.long pv), (.long qv), (.int fv)] maxLocals)) t := fun t k => pre130 _ (st131.trans k)
    have pre132 : ∀ t, Steps p.tables e below (T131.setTop (mkF m 83 #[.val (.long pv), .second, .val (.long qv), .second, .val (.int fv), .val (.ref wS), .val (.int ((fv >>> ((1 : Int32) &&& 31)) &&& (3 : Int32))), .val (.long ov), .second, .val (.int (own_ma_s pv ov)), .unset, .unset, .unset, .unset, .unset] [(.long pv), (.long ov), (.ref wS)])) t → Steps p.tables e below (s₁.setTop (entryFrame m #[(.long pv), (.long qv), (.int fv)] maxLocals)) t := fun t k => by
      refine pre131 _ ?_
      show Steps p.tables e below (T131.setTop (mkF m 76 #[.val (.long pv), .second, .val (.long qv), .second, .val (.int fv), .val (.ref wS), .val (.int ((fv >>> ((1 : Int32) &&& 31)) &&& (3 : Int32))), .val (.long ov), .second, .unset, .unset, .unset, .unset, .unset, .unset] [(.int (own_ma_s pv ov))])) _
      refine XS.istore X131.here hx rfl (hb hby at_76) rfl (l' := #[.val (.long pv), .second, .val (.long qv), .second, .val (.int fv), .val (.ref wS), .val (.int ((fv >>> ((1 : Int32) &&& 31)) &&& (3 : Int32))), .val (.long ov), .second, .val (.int (own_ma_s pv ov)), .unset, .unset, .unset, .unset, .unset]) rfl ?_
      show Steps p.tables e below (T131.setTop (mkF m 78 #[.val (.long pv), .second, .val (.long qv), .second, .val (.int fv), .val (.ref wS), .val (.int ((fv >>> ((1 : Int32) &&& 31)) &&& (3 : Int32))), .val (.long ov), .second, .val (.int (own_ma_s pv ov)), .unset, .unset, .unset, .unset, .unset] [])) _
      refine XS.aload X131.here hx rfl (hb hby at_78) rfl rfl ?_
      show Steps p.tables e below (T131.setTop (mkF m 80 #[.val (.long pv), .second, .val (.long qv), .second, .val (.int fv), .val (.ref wS), .val (.int ((fv >>> ((1 : Int32) &&& 31)) &&& (3 : Int32))), .val (.long ov), .second, .val (.int (own_ma_s pv ov)), .unset, .unset, .unset, .unset, .unset] [(.ref wS)])) _
      refine XS.lload X131.here hx rfl (hb hby at_80) rfl ?_
      show Steps p.tables e below (T131.setTop (mkF m 82 #[.val (.long pv), .second, .val (.long qv), .second, .val (.int fv), .val (.ref wS), .val (.int ((fv >>> ((1 : Int32) &&& 31)) &&& (3 : Int32))), .val (.long ov), .second, .val (.int (own_ma_s pv ov)), .unset, .unset, .unset, .unset, .unset] [(.long ov), (.ref wS)])) _
      refine XS.lloadN X131.here hx rfl (hb hby at_82) rfl ?_
      show Steps p.tables e below (T131.setTop (mkF m 83 #[.val (.long pv), .second, .val (.long qv), .second, .val (.int fv), .val (.ref wS), .val (.int ((fv >>> ((1 : Int32) &&& 31)) &&& (3 : Int32))), .val (.long ov), .second, .val (.int (own_ma_s pv ov)), .unset, .unset, .unset, .unset, .unset] [(.long pv), (.long ov), (.ref wS)])) _
      exact k
    obtain ⟨cq133, kq133, q133a, q133b, q133c⟩ := isOf hZ e131 E_S
    obtain ⟨_, _, ⟨T133, L133, k133, n133⟩, -, X133, ⟨Lc133, hQ133, l133, y133, z133⟩, st133⟩ := X131.virtualBack hx (y := (⟨"com/example/tidebook/tidebook/book/Side", "isMoreAggressive", "(JJ)Z"⟩ : MethodName)) (z := (⟨"com/example/tidebook/tidebook/book/Side", "isMoreAggressive", "(JJ)Z"⟩ : MethodName)) hown (mvT hZ (hw _ (List.mem_of_getElem? (i := 3) rfl))) (mvT hZ (hw _ (List.mem_of_getElem? (i := 4) rfl))) (notFace_of_selects (args := #[]) (mvT hZ (hw _ (List.mem_of_getElem? (i := 6) rfl)))) (mvT hZ (hw _ (List.mem_of_getElem? (i := 6) rfl))) (mvT hZ (hw _ (List.mem_of_getElem? (i := 5) rfl))) (by decide) (backOf (W := 0) (rm1_s l Z aZ hw [] wS ov pv wB h0 n0 Z0 S_B S_S hne) hZ (hw _ (List.mem_of_getElem? (i := 7) rfl)) (hw _ (List.mem_of_getElem? (i := 1) rfl)) (by decide) (by decide)) q133a q133c (g := (mkF m 83 #[.val (.long pv), .second, .val (.long qv), .second, .val (.int fv), .val (.ref wS), .val (.int ((fv >>> ((1 : Int32) &&& 31)) &&& (3 : Int32))), .val (.long ov), .second, .val (.int (own_ma_s pv ov)), .unset, .unset, .unset, .unset, .unset] [(.long pv), (.long ov), (.ref wS)])) rfl (by rw [hml]; rfl) (Steps.refl _) (argsL := [(.long ov), (.long pv)]) (rest := []) (lenOf pd_0 rfl) rfl (by show 2 * 0 + _ ≤ _; exact Nat.le_of_eq rfl) (hb hby at_83) (fun _ _ => ⟨rfl, e131, (by decide : 0 + 0 ≤ _), (by decide : 0 + 0 ≤ _)⟩)
    dsimp only [Pt.U, Pt.locs, Pt.cells, Pt.slots] at X133 l133 y133 z133 st133 hQ133
    subst l133 y133 z133
    obtain ⟨rfl, N133q, e133⟩ := hQ133
    have N133 := Fr.app N131 N133q
    have pre133 : ∀ t, Steps p.tables e below (T133.setTop (mkF m 86 #[.val (.long pv), .second, .val (.long qv), .second, .val (.int fv), .val (.ref wS), .val (.int ((fv >>> ((1 : Int32) &&& 31)) &&& (3 : Int32))), .val (.long ov), .second, .val (.int (own_ma_s pv ov)), .unset, .unset, .unset, .unset, .unset] [(.int (own_ma_s ov pv))])) t → Steps p.tables e below (s₁.setTop (entryFrame m #[(.long pv), (.long qv), (.int fv)] maxLocals)) t := fun t k => pre132 _ (st133.trans k)
    have pre134 : ∀ t, Steps p.tables e below (T133.setTop (mkF m 90 #[.val (.long pv), .second, .val (.long qv), .second, .val (.int fv), .val (.ref wS), .val (.int ((fv >>> ((1 : Int32) &&& 31)) &&& (3 : Int32))), .val (.long ov), .second, .val (.int (own_ma_s pv ov)), .val (.int (own_ma_s ov pv)), .unset, .unset, .unset, .unset] [(.ref wS)])) t → Steps p.tables e below (s₁.setTop (entryFrame m #[(.long pv), (.long qv), (.int fv)] maxLocals)) t := fun t k => by
      refine pre133 _ ?_
      show Steps p.tables e below (T133.setTop (mkF m 86 #[.val (.long pv), .second, .val (.long qv), .second, .val (.int fv), .val (.ref wS), .val (.int ((fv >>> ((1 : Int32) &&& 31)) &&& (3 : Int32))), .val (.long ov), .second, .val (.int (own_ma_s pv ov)), .unset, .unset, .unset, .unset, .unset] [(.int (own_ma_s ov pv))])) _
      refine XS.istore X133.here hx rfl (hb hby at_86) rfl (l' := #[.val (.long pv), .second, .val (.long qv), .second, .val (.int fv), .val (.ref wS), .val (.int ((fv >>> ((1 : Int32) &&& 31)) &&& (3 : Int32))), .val (.long ov), .second, .val (.int (own_ma_s pv ov)), .val (.int (own_ma_s ov pv)), .unset, .unset, .unset, .unset]) rfl ?_
      show Steps p.tables e below (T133.setTop (mkF m 88 #[.val (.long pv), .second, .val (.long qv), .second, .val (.int fv), .val (.ref wS), .val (.int ((fv >>> ((1 : Int32) &&& 31)) &&& (3 : Int32))), .val (.long ov), .second, .val (.int (own_ma_s pv ov)), .val (.int (own_ma_s ov pv)), .unset, .unset, .unset, .unset] [])) _
      refine XS.aload X133.here hx rfl (hb hby at_88) rfl rfl ?_
      show Steps p.tables e below (T133.setTop (mkF m 90 #[.val (.long pv), .second, .val (.long qv), .second, .val (.int fv), .val (.ref wS), .val (.int ((fv >>> ((1 : Int32) &&& 31)) &&& (3 : Int32))), .val (.long ov), .second, .val (.int (own_ma_s pv ov)), .val (.int (own_ma_s ov pv)), .unset, .unset, .unset, .unset] [(.ref wS)])) _
      exact k
    obtain ⟨cq135, kq135, q135a, q135b, q135c⟩ := isOf hZ e133 E_S
    obtain ⟨_, _, ⟨T135, L135, k135, n135⟩, -, X135, ⟨Lc135, hQ135, l135, y135, z135⟩, st135⟩ := X133.virtualBack hx (y := (⟨"com/example/tidebook/tidebook/book/Side", "opposite", "()Lcom/example/tidebook/tidebook/book/Side;"⟩ : MethodName)) (z := (⟨"com/example/tidebook/tidebook/book/Side", "opposite", "()Lcom/example/tidebook/tidebook/book/Side;"⟩ : MethodName)) hown (mvT hZ (hw _ (List.mem_of_getElem? (i := 9) rfl))) (mvT hZ (hw _ (List.mem_of_getElem? (i := 10) rfl))) (notFace_of_selects (args := #[]) (mvT hZ (hw _ (List.mem_of_getElem? (i := 12) rfl)))) (mvT hZ (hw _ (List.mem_of_getElem? (i := 12) rfl))) (mvT hZ (hw _ (List.mem_of_getElem? (i := 11) rfl))) (by decide) (backOf (W := 0) (rm2_s l Z aZ hw [] wS wB h0 n0 Z0 S_B S_S hne) hZ (hw _ (List.mem_of_getElem? (i := 13) rfl)) (hw _ (List.mem_of_getElem? (i := 1) rfl)) (by decide) (by decide)) q135a q135c (g := (mkF m 90 #[.val (.long pv), .second, .val (.long qv), .second, .val (.int fv), .val (.ref wS), .val (.int ((fv >>> ((1 : Int32) &&& 31)) &&& (3 : Int32))), .val (.long ov), .second, .val (.int (own_ma_s pv ov)), .val (.int (own_ma_s ov pv)), .unset, .unset, .unset, .unset] [(.ref wS)])) rfl (by rw [hml]; rfl) (Steps.refl _) (argsL := []) (rest := []) (lenOf pd_1 rfl) rfl (by show 2 * 0 + _ ≤ _; exact Nat.le_of_eq rfl) (hb hby at_90) (fun _ _ => ⟨rfl, e133, (by decide : 0 + 0 ≤ _), (by decide : 0 + 0 ≤ _)⟩)
    dsimp only [Pt.U, Pt.locs, Pt.cells, Pt.slots] at X135 l135 y135 z135 st135 hQ135
    subst l135 y135 z135
    obtain ⟨rfl, N135q, e135⟩ := hQ135
    have N135 := Fr.app N133 N135q
    have pre135 : ∀ t, Steps p.tables e below (T135.setTop (mkF m 93 #[.val (.long pv), .second, .val (.long qv), .second, .val (.int fv), .val (.ref wS), .val (.int ((fv >>> ((1 : Int32) &&& 31)) &&& (3 : Int32))), .val (.long ov), .second, .val (.int (own_ma_s pv ov)), .val (.int (own_ma_s ov pv)), .unset, .unset, .unset, .unset] [(.ref wB)])) t → Steps p.tables e below (s₁.setTop (entryFrame m #[(.long pv), (.long qv), (.int fv)] maxLocals)) t := fun t k => pre134 _ (st135.trans k)
    have pre136 : ∀ t, Steps p.tables e below (T135.setTop (mkF m 96 #[.val (.long pv), .second, .val (.long qv), .second, .val (.int fv), .val (.ref wS), .val (.int ((fv >>> ((1 : Int32) &&& 31)) &&& (3 : Int32))), .val (.long ov), .second, .val (.int (own_ma_s pv ov)), .val (.int (own_ma_s ov pv)), .unset, .unset, .unset, .unset] [(.long pv), (.long ov), (.ref wB)])) t → Steps p.tables e below (s₁.setTop (entryFrame m #[(.long pv), (.long qv), (.int fv)] maxLocals)) t := fun t k => by
      refine pre135 _ ?_
      show Steps p.tables e below (T135.setTop (mkF m 93 #[.val (.long pv), .second, .val (.long qv), .second, .val (.int fv), .val (.ref wS), .val (.int ((fv >>> ((1 : Int32) &&& 31)) &&& (3 : Int32))), .val (.long ov), .second, .val (.int (own_ma_s pv ov)), .val (.int (own_ma_s ov pv)), .unset, .unset, .unset, .unset] [(.ref wB)])) _
      refine XS.lload X135.here hx rfl (hb hby at_93) rfl ?_
      show Steps p.tables e below (T135.setTop (mkF m 95 #[.val (.long pv), .second, .val (.long qv), .second, .val (.int fv), .val (.ref wS), .val (.int ((fv >>> ((1 : Int32) &&& 31)) &&& (3 : Int32))), .val (.long ov), .second, .val (.int (own_ma_s pv ov)), .val (.int (own_ma_s ov pv)), .unset, .unset, .unset, .unset] [(.long ov), (.ref wB)])) _
      refine XS.lloadN X135.here hx rfl (hb hby at_95) rfl ?_
      show Steps p.tables e below (T135.setTop (mkF m 96 #[.val (.long pv), .second, .val (.long qv), .second, .val (.int fv), .val (.ref wS), .val (.int ((fv >>> ((1 : Int32) &&& 31)) &&& (3 : Int32))), .val (.long ov), .second, .val (.int (own_ma_s pv ov)), .val (.int (own_ma_s ov pv)), .unset, .unset, .unset, .unset] [(.long pv), (.long ov), (.ref wB)])) _
      exact k
    obtain ⟨cq137, kq137, q137a, q137b, q137c⟩ := isOf hZ e135 E_B
    obtain ⟨_, _, ⟨T137, L137, k137, n137⟩, -, X137, ⟨Lc137, hQ137, l137, y137, z137⟩, st137⟩ := X135.virtualBack hx (y := (⟨"com/example/tidebook/tidebook/book/Side", "isMoreAggressive", "(JJ)Z"⟩ : MethodName)) (z := (⟨"com/example/tidebook/tidebook/book/Side", "isMoreAggressive", "(JJ)Z"⟩ : MethodName)) hown (mvT hZ (hw _ (List.mem_of_getElem? (i := 3) rfl))) (mvT hZ (hw _ (List.mem_of_getElem? (i := 4) rfl))) (notFace_of_selects (args := #[]) (mvT hZ (hw _ (List.mem_of_getElem? (i := 6) rfl)))) (mvT hZ (hw _ (List.mem_of_getElem? (i := 6) rfl))) (mvT hZ (hw _ (List.mem_of_getElem? (i := 5) rfl))) (by decide) (backOf (W := 0) (rm1_b l Z aZ hw [] wB ov pv wS h0 n0 Z0 S_B S_S hne) hZ (hw _ (List.mem_of_getElem? (i := 7) rfl)) (hw _ (List.mem_of_getElem? (i := 1) rfl)) (by decide) (by decide)) q137a q137c (g := (mkF m 96 #[.val (.long pv), .second, .val (.long qv), .second, .val (.int fv), .val (.ref wS), .val (.int ((fv >>> ((1 : Int32) &&& 31)) &&& (3 : Int32))), .val (.long ov), .second, .val (.int (own_ma_s pv ov)), .val (.int (own_ma_s ov pv)), .unset, .unset, .unset, .unset] [(.long pv), (.long ov), (.ref wB)])) rfl (by rw [hml]; rfl) (Steps.refl _) (argsL := [(.long ov), (.long pv)]) (rest := []) (lenOf pd_0 rfl) rfl (by show 2 * 0 + _ ≤ _; exact Nat.le_of_eq rfl) (hb hby at_96) (fun _ _ => ⟨rfl, e135, (by decide : 0 + 0 ≤ _), (by decide : 0 + 0 ≤ _)⟩)
    dsimp only [Pt.U, Pt.locs, Pt.cells, Pt.slots] at X137 l137 y137 z137 st137 hQ137
    subst l137 y137 z137
    obtain ⟨rfl, N137q, e137⟩ := hQ137
    have N137 := Fr.app N135 N137q
    have pre137 : ∀ t, Steps p.tables e below (T137.setTop (mkF m 99 #[.val (.long pv), .second, .val (.long qv), .second, .val (.int fv), .val (.ref wS), .val (.int ((fv >>> ((1 : Int32) &&& 31)) &&& (3 : Int32))), .val (.long ov), .second, .val (.int (own_ma_s pv ov)), .val (.int (own_ma_s ov pv)), .unset, .unset, .unset, .unset] [(.int (own_ma_b ov pv))])) t → Steps p.tables e below (s₁.setTop (entryFrame m #[(.long pv), (.long qv), (.int fv)] maxLocals)) t := fun t k => pre136 _ (st137.trans k)
    have pre138 : ∀ t, Steps p.tables e below (T137.setTop (mkF m 106 #[.val (.long pv), .second, .val (.long qv), .second, .val (.int fv), .val (.ref wS), .val (.int ((fv >>> ((1 : Int32) &&& 31)) &&& (3 : Int32))), .val (.long ov), .second, .val (.int (own_ma_s pv ov)), .val (.int (own_ma_s ov pv)), .val (.int (own_ma_b ov pv)), .unset, .unset, .unset] [(.long ov), (.long pv), (.ref wS)])) t → Steps p.tables e below (s₁.setTop (entryFrame m #[(.long pv), (.long qv), (.int fv)] maxLocals)) t := fun t k => by
      refine pre137 _ ?_
      show Steps p.tables e below (T137.setTop (mkF m 99 #[.val (.long pv), .second, .val (.long qv), .second, .val (.int fv), .val (.ref wS), .val (.int ((fv >>> ((1 : Int32) &&& 31)) &&& (3 : Int32))), .val (.long ov), .second, .val (.int (own_ma_s pv ov)), .val (.int (own_ma_s ov pv)), .unset, .unset, .unset, .unset] [(.int (own_ma_b ov pv))])) _
      refine XS.istore X137.here hx rfl (hb hby at_99) rfl (l' := #[.val (.long pv), .second, .val (.long qv), .second, .val (.int fv), .val (.ref wS), .val (.int ((fv >>> ((1 : Int32) &&& 31)) &&& (3 : Int32))), .val (.long ov), .second, .val (.int (own_ma_s pv ov)), .val (.int (own_ma_s ov pv)), .val (.int (own_ma_b ov pv)), .unset, .unset, .unset]) rfl ?_
      show Steps p.tables e below (T137.setTop (mkF m 101 #[.val (.long pv), .second, .val (.long qv), .second, .val (.int fv), .val (.ref wS), .val (.int ((fv >>> ((1 : Int32) &&& 31)) &&& (3 : Int32))), .val (.long ov), .second, .val (.int (own_ma_s pv ov)), .val (.int (own_ma_s ov pv)), .val (.int (own_ma_b ov pv)), .unset, .unset, .unset] [])) _
      refine XS.aload X137.here hx rfl (hb hby at_101) rfl rfl ?_
      show Steps p.tables e below (T137.setTop (mkF m 103 #[.val (.long pv), .second, .val (.long qv), .second, .val (.int fv), .val (.ref wS), .val (.int ((fv >>> ((1 : Int32) &&& 31)) &&& (3 : Int32))), .val (.long ov), .second, .val (.int (own_ma_s pv ov)), .val (.int (own_ma_s ov pv)), .val (.int (own_ma_b ov pv)), .unset, .unset, .unset] [(.ref wS)])) _
      refine XS.lloadN X137.here hx rfl (hb hby at_103) rfl ?_
      show Steps p.tables e below (T137.setTop (mkF m 104 #[.val (.long pv), .second, .val (.long qv), .second, .val (.int fv), .val (.ref wS), .val (.int ((fv >>> ((1 : Int32) &&& 31)) &&& (3 : Int32))), .val (.long ov), .second, .val (.int (own_ma_s pv ov)), .val (.int (own_ma_s ov pv)), .val (.int (own_ma_b ov pv)), .unset, .unset, .unset] [(.long pv), (.ref wS)])) _
      refine XS.lload X137.here hx rfl (hb hby at_104) rfl ?_
      show Steps p.tables e below (T137.setTop (mkF m 106 #[.val (.long pv), .second, .val (.long qv), .second, .val (.int fv), .val (.ref wS), .val (.int ((fv >>> ((1 : Int32) &&& 31)) &&& (3 : Int32))), .val (.long ov), .second, .val (.int (own_ma_s pv ov)), .val (.int (own_ma_s ov pv)), .val (.int (own_ma_b ov pv)), .unset, .unset, .unset] [(.long ov), (.long pv), (.ref wS)])) _
      exact k
    obtain ⟨cq139, kq139, q139a, q139b, q139c⟩ := isOf hZ e137 E_S
    obtain ⟨_, _, ⟨T139, L139, k139, n139⟩, -, X139, ⟨Lc139, hQ139, l139, y139, z139⟩, st139⟩ := X137.virtualBack hx (y := (⟨"com/example/tidebook/tidebook/book/Side", "lessAggressive", "(JJ)J"⟩ : MethodName)) (z := (⟨"com/example/tidebook/tidebook/book/Side", "lessAggressive", "(JJ)J"⟩ : MethodName)) hown (mvT hZ (hw _ (List.mem_of_getElem? (i := 16) rfl))) (mvT hZ (hw _ (List.mem_of_getElem? (i := 17) rfl))) (notFace_of_selects (args := #[]) (mvT hZ (hw _ (List.mem_of_getElem? (i := 19) rfl)))) (mvT hZ (hw _ (List.mem_of_getElem? (i := 19) rfl))) (mvT hZ (hw _ (List.mem_of_getElem? (i := 18) rfl))) (by decide) (backOf (W := 0) (rm3_s l Z aZ hw [] wS pv ov wB h0 n0 Z0 S_B S_S hne) hZ (hw _ (List.mem_of_getElem? (i := 20) rfl)) (hw _ (List.mem_of_getElem? (i := 1) rfl)) (by decide) (by decide)) q139a q139c (g := (mkF m 106 #[.val (.long pv), .second, .val (.long qv), .second, .val (.int fv), .val (.ref wS), .val (.int ((fv >>> ((1 : Int32) &&& 31)) &&& (3 : Int32))), .val (.long ov), .second, .val (.int (own_ma_s pv ov)), .val (.int (own_ma_s ov pv)), .val (.int (own_ma_b ov pv)), .unset, .unset, .unset] [(.long ov), (.long pv), (.ref wS)])) rfl (by rw [hml]; rfl) (Steps.refl _) (argsL := [(.long pv), (.long ov)]) (rest := []) (lenOf pd_2 rfl) rfl (by show 2 * 0 + _ ≤ _; exact Nat.le_of_eq rfl) (hb hby at_106) (fun _ _ => ⟨rfl, e137, (by decide : 0 + 0 ≤ _), (by decide : 0 + 0 ≤ _)⟩)
    dsimp only [Pt.U, Pt.locs, Pt.cells, Pt.slots] at X139 l139 y139 z139 st139 hQ139
    subst l139 y139 z139
    obtain ⟨rfl, N139q, e139⟩ := hQ139
    have N139 := Fr.app N137 N139q
    have pre139 : ∀ t, Steps p.tables e below (T139.setTop (mkF m 109 #[.val (.long pv), .second, .val (.long qv), .second, .val (.int fv), .val (.ref wS), .val (.int ((fv >>> ((1 : Int32) &&& 31)) &&& (3 : Int32))), .val (.long ov), .second, .val (.int (own_ma_s pv ov)), .val (.int (own_ma_s ov pv)), .val (.int (own_ma_b ov pv)), .unset, .unset, .unset] [(.long (own_la_s pv ov))])) t → Steps p.tables e below (s₁.setTop (entryFrame m #[(.long pv), (.long qv), (.int fv)] maxLocals)) t := fun t k => pre138 _ (st139.trans k)
    have pre140 : ∀ t, Steps p.tables e below (T139.setTop (mkF m 111 #[.val (.long pv), .second, .val (.long qv), .second, .val (.int fv), .val (.ref wS), .val (.int ((fv >>> ((1 : Int32) &&& 31)) &&& (3 : Int32))), .val (.long ov), .second, .val (.int (own_ma_s pv ov)), .val (.int (own_ma_s ov pv)), .val (.int (own_ma_b ov pv)), .val (.long (own_la_s pv ov)), .second, .unset] [])) t → Steps p.tables e below (s₁.setTop (entryFrame m #[(.long pv), (.long qv), (.int fv)] maxLocals)) t := fun t k => by
      refine pre139 _ ?_
      show Steps p.tables e below (T139.setTop (mkF m 109 #[.val (.long pv), .second, .val (.long qv), .second, .val (.int fv), .val (.ref wS), .val (.int ((fv >>> ((1 : Int32) &&& 31)) &&& (3 : Int32))), .val (.long ov), .second, .val (.int (own_ma_s pv ov)), .val (.int (own_ma_s ov pv)), .val (.int (own_ma_b ov pv)), .unset, .unset, .unset] [(.long (own_la_s pv ov))])) _
      refine XS.lstore X139.here hx rfl (hb hby at_109) rfl (l' := #[.val (.long pv), .second, .val (.long qv), .second, .val (.int fv), .val (.ref wS), .val (.int ((fv >>> ((1 : Int32) &&& 31)) &&& (3 : Int32))), .val (.long ov), .second, .val (.int (own_ma_s pv ov)), .val (.int (own_ma_s ov pv)), .val (.int (own_ma_b ov pv)), .val (.long (own_la_s pv ov)), .second, .unset]) rfl ?_
      show Steps p.tables e below (T139.setTop (mkF m 111 #[.val (.long pv), .second, .val (.long qv), .second, .val (.int fv), .val (.ref wS), .val (.int ((fv >>> ((1 : Int32) &&& 31)) &&& (3 : Int32))), .val (.long ov), .second, .val (.int (own_ma_s pv ov)), .val (.int (own_ma_s ov pv)), .val (.int (own_ma_b ov pv)), .val (.long (own_la_s pv ov)), .second, .unset] [])) _
      exact k
    have htri : pv < ov ∨ pv = ov ∨ ov < pv := by simp only [Int64.lt_iff_toInt_lt, ← Int64.toInt_inj]; omega
    rcases htri with hc | hc | hc
    · have hneg : ¬ (ov < pv) := by simp only [Int64.lt_iff_toInt_lt, ← Int64.toInt_inj] at hc ⊢; omega
      have hneq : ¬ (pv = ov) := by simp only [Int64.lt_iff_toInt_lt, ← Int64.toInt_inj] at hc ⊢; omega
      have ra : (own_ma_s pv ov) = (1 : Int32) := by
        unfold own_ma_s
        first | (rw [if_pos hc]; done) | (rw [if_neg hneg]; done) | (rw [if_neg hneq]; done) | (rw [if_neg (by simp only [Int64.lt_iff_toInt_lt, ← Int64.toInt_inj] at hc ⊢; omega)]; first | done | exact hc.symm) | (rw [if_pos (by simp only [Int64.lt_iff_toInt_lt, ← Int64.toInt_inj] at hc ⊢; omega)]; first | done | exact hc.symm)
      have rb : (own_ma_s ov pv) = (0 : Int32) := by
        unfold own_ma_s
        first | (rw [if_pos hc]; done) | (rw [if_neg hneg]; done) | (rw [if_neg hneq]; done) | (rw [if_neg (by simp only [Int64.lt_iff_toInt_lt, ← Int64.toInt_inj] at hc ⊢; omega)]; first | done | exact hc.symm) | (rw [if_pos (by simp only [Int64.lt_iff_toInt_lt, ← Int64.toInt_inj] at hc ⊢; omega)]; first | done | exact hc.symm)
      have rc : (own_ma_b ov pv) = (1 : Int32) := by
        unfold own_ma_b
        first | (rw [if_pos hc]; done) | (rw [if_neg hneg]; done) | (rw [if_neg hneq]; done) | (rw [if_neg (by simp only [Int64.lt_iff_toInt_lt, ← Int64.toInt_inj] at hc ⊢; omega)]; first | done | exact hc.symm) | (rw [if_pos (by simp only [Int64.lt_iff_toInt_lt, ← Int64.toInt_inj] at hc ⊢; omega)]; first | done | exact hc.symm)
      have rl : (own_la_s pv ov) = ov := by
        unfold own_la_s
        unfold own_max
        first | (rw [if_pos hc]; done) | (rw [if_neg hneg]; done) | (rw [if_neg hneq]; done) | (rw [if_neg (by simp only [Int64.lt_iff_toInt_lt, ← Int64.toInt_inj] at hc ⊢; omega)]; first | done | exact hc.symm) | (rw [if_pos (by simp only [Int64.lt_iff_toInt_lt, ← Int64.toInt_inj] at hc ⊢; omega)]; first | done | exact hc.symm)
      have pre141 : ∀ t, Steps p.tables e below (T139.setTop (mkF m 111 #[.val (.long pv), .second, .val (.long qv), .second, .val (.int fv), .val (.ref wS), .val (.int ((fv >>> ((1 : Int32) &&& 31)) &&& (3 : Int32))), .val (.long ov), .second, .val (.int (1 : Int32)), .val (.int (own_ma_s ov pv)), .val (.int (own_ma_b ov pv)), .val (.long (own_la_s pv ov)), .second, .unset] [])) t → Steps p.tables e below (s₁.setTop (entryFrame m #[(.long pv), (.long qv), (.int fv)] maxLocals)) t := by
        have q := pre140
        rw [ra] at q
        exact q
      have pre142 : ∀ t, Steps p.tables e below (T139.setTop (mkF m 111 #[.val (.long pv), .second, .val (.long qv), .second, .val (.int fv), .val (.ref wS), .val (.int ((fv >>> ((1 : Int32) &&& 31)) &&& (3 : Int32))), .val (.long ov), .second, .val (.int (1 : Int32)), .val (.int (0 : Int32)), .val (.int (own_ma_b ov pv)), .val (.long (own_la_s pv ov)), .second, .unset] [])) t → Steps p.tables e below (s₁.setTop (entryFrame m #[(.long pv), (.long qv), (.int fv)] maxLocals)) t := by
        have q := pre141
        rw [rb] at q
        exact q
      have pre143 : ∀ t, Steps p.tables e below (T139.setTop (mkF m 111 #[.val (.long pv), .second, .val (.long qv), .second, .val (.int fv), .val (.ref wS), .val (.int ((fv >>> ((1 : Int32) &&& 31)) &&& (3 : Int32))), .val (.long ov), .second, .val (.int (1 : Int32)), .val (.int (0 : Int32)), .val (.int (1 : Int32)), .val (.long (own_la_s pv ov)), .second, .unset] [])) t → Steps p.tables e below (s₁.setTop (entryFrame m #[(.long pv), (.long qv), (.int fv)] maxLocals)) t := by
        have q := pre142
        rw [rc] at q
        exact q
      have pre144 : ∀ t, Steps p.tables e below (T139.setTop (mkF m 111 #[.val (.long pv), .second, .val (.long qv), .second, .val (.int fv), .val (.ref wS), .val (.int ((fv >>> ((1 : Int32) &&& 31)) &&& (3 : Int32))), .val (.long ov), .second, .val (.int (1 : Int32)), .val (.int (0 : Int32)), .val (.int (1 : Int32)), .val (.long ov), .second, .unset] [])) t → Steps p.tables e below (s₁.setTop (entryFrame m #[(.long pv), (.long qv), (.int fv)] maxLocals)) t := by
        have q := pre143
        rw [rl] at q
        exact q
      obtain ⟨fs, hr, hrun, hended, hW, hsame⟩ := X139.leave (v := some (.int (1 : Int32))) (fun h => by rw [Bd.returns] at h; cases h)
      refine ⟨_, _, pre144 _ ?_, hrun, hended, _, _, rfl, ?_, ⟨_, rfl⟩, hW, hsame.mono (by decide) (by decide)⟩
      · show Steps p.tables e below (T139.setTop (mkF m 111 #[.val (.long pv), .second, .val (.long qv), .second, .val (.int fv), .val (.ref wS), .val (.int ((fv >>> ((1 : Int32) &&& 31)) &&& (3 : Int32))), .val (.long ov), .second, .val (.int (1 : Int32)), .val (.int (0 : Int32)), .val (.int (1 : Int32)), .val (.long ov), .second, .unset] [])) _
        refine XS.iload X139.here hx rfl (hb hby at_111) rfl ?_
        show Steps p.tables e below (T139.setTop (mkF m 113 #[.val (.long pv), .second, .val (.long qv), .second, .val (.int fv), .val (.ref wS), .val (.int ((fv >>> ((1 : Int32) &&& 31)) &&& (3 : Int32))), .val (.long ov), .second, .val (.int (1 : Int32)), .val (.int (0 : Int32)), .val (.int (1 : Int32)), .val (.long ov), .second, .unset] [(.int (1 : Int32))])) _
        refine XS.ifNo X139.here hx rfl (hb hby at_113) rfl ((if0 _ _).trans (feq (by decide : ¬ ((1 : Int32) = (0 : Int32)))).1) ?_
        show Steps p.tables e below (T139.setTop (mkF m 116 #[.val (.long pv), .second, .val (.long qv), .second, .val (.int fv), .val (.ref wS), .val (.int ((fv >>> ((1 : Int32) &&& 31)) &&& (3 : Int32))), .val (.long ov), .second, .val (.int (1 : Int32)), .val (.int (0 : Int32)), .val (.int (1 : Int32)), .val (.long ov), .second, .unset] [])) _
        refine XS.iconst X139.here hx rfl (hb hby at_116) ?_
        show Steps p.tables e below (T139.setTop (mkF m 117 #[.val (.long pv), .second, .val (.long qv), .second, .val (.int fv), .val (.ref wS), .val (.int ((fv >>> ((1 : Int32) &&& 31)) &&& (3 : Int32))), .val (.long ov), .second, .val (.int (1 : Int32)), .val (.int (0 : Int32)), .val (.int (1 : Int32)), .val (.long ov), .second, .unset] [(.int (1 : Int32))])) _
        refine XS.goto X139.here hx rfl (pc0 := 117) (pc' := 121) rfl (hb hby at_117) (by decide) (by decide) ?_
        show Steps p.tables e below (T139.setTop (mkF m 121 #[.val (.long pv), .second, .val (.long qv), .second, .val (.int fv), .val (.ref wS), .val (.int ((fv >>> ((1 : Int32) &&& 31)) &&& (3 : Int32))), .val (.long ov), .second, .val (.int (1 : Int32)), .val (.int (0 : Int32)), .val (.int (1 : Int32)), .val (.long ov), .second, .unset] [(.int (1 : Int32))])) _
        refine XS.iload X139.here hx rfl (hb hby at_121) rfl ?_
        show Steps p.tables e below (T139.setTop (mkF m 123 #[.val (.long pv), .second, .val (.long qv), .second, .val (.int fv), .val (.ref wS), .val (.int ((fv >>> ((1 : Int32) &&& 31)) &&& (3 : Int32))), .val (.long ov), .second, .val (.int (1 : Int32)), .val (.int (0 : Int32)), .val (.int (1 : Int32)), .val (.long ov), .second, .unset] [(.int (0 : Int32)), (.int (1 : Int32))])) _
        refine XS.ifYes X139.here hx rfl (pc0 := 123) (pc' := 130) rfl (hb hby at_123) rfl ((if0 _ _).trans (teq (by decide : (0 : Int32) = (0 : Int32))).1) (by decide) (by decide) ?_
        show Steps p.tables e below (T139.setTop (mkF m 130 #[.val (.long pv), .second, .val (.long qv), .second, .val (.int fv), .val (.ref wS), .val (.int ((fv >>> ((1 : Int32) &&& 31)) &&& (3 : Int32))), .val (.long ov), .second, .val (.int (1 : Int32)), .val (.int (0 : Int32)), .val (.int (1 : Int32)), .val (.long ov), .second, .unset] [(.int (1 : Int32))])) _
        refine XS.iconst X139.here hx rfl (hb hby at_130) ?_
        show Steps p.tables e below (T139.setTop (mkF m 131 #[.val (.long pv), .second, .val (.long qv), .second, .val (.int fv), .val (.ref wS), .val (.int ((fv >>> ((1 : Int32) &&& 31)) &&& (3 : Int32))), .val (.long ov), .second, .val (.int (1 : Int32)), .val (.int (0 : Int32)), .val (.int (1 : Int32)), .val (.long ov), .second, .unset] [(.int (0 : Int32)), (.int (1 : Int32))])) _
        refine XS.iadd X139.here hx rfl (hb hby at_131) rfl ?_
        show Steps p.tables e below (T139.setTop (mkF m 132 #[.val (.long pv), .second, .val (.long qv), .second, .val (.int fv), .val (.ref wS), .val (.int ((fv >>> ((1 : Int32) &&& 31)) &&& (3 : Int32))), .val (.long ov), .second, .val (.int (1 : Int32)), .val (.int (0 : Int32)), .val (.int (1 : Int32)), .val (.long ov), .second, .unset] [(.int ((1 : Int32) + (0 : Int32)))])) _
        refine XS.lloadN X139.here hx rfl (hb hby at_132) rfl ?_
        show Steps p.tables e below (T139.setTop (mkF m 133 #[.val (.long pv), .second, .val (.long qv), .second, .val (.int fv), .val (.ref wS), .val (.int ((fv >>> ((1 : Int32) &&& 31)) &&& (3 : Int32))), .val (.long ov), .second, .val (.int (1 : Int32)), .val (.int (0 : Int32)), .val (.int (1 : Int32)), .val (.long ov), .second, .unset] [(.long pv), (.int ((1 : Int32) + (0 : Int32)))])) _
        refine XS.lload X139.here hx rfl (hb hby at_133) rfl ?_
        show Steps p.tables e below (T139.setTop (mkF m 135 #[.val (.long pv), .second, .val (.long qv), .second, .val (.int fv), .val (.ref wS), .val (.int ((fv >>> ((1 : Int32) &&& 31)) &&& (3 : Int32))), .val (.long ov), .second, .val (.int (1 : Int32)), .val (.int (0 : Int32)), .val (.int (1 : Int32)), .val (.long ov), .second, .unset] [(.long ov), (.long pv), (.int ((1 : Int32) + (0 : Int32)))])) _
        refine XS.lcmp X139.here hx rfl (hb hby at_135) rfl ?_
        show Steps p.tables e below (T139.setTop (mkF m 136 #[.val (.long pv), .second, .val (.long qv), .second, .val (.int fv), .val (.ref wS), .val (.int ((fv >>> ((1 : Int32) &&& 31)) &&& (3 : Int32))), .val (.long ov), .second, .val (.int (1 : Int32)), .val (.int (0 : Int32)), .val (.int (1 : Int32)), .val (.long ov), .second, .unset] [(.int (lcmpW pv ov)), (.int ((1 : Int32) + (0 : Int32)))])) _
        refine XS.ifYes X139.here hx rfl (pc0 := 136) (pc' := 143) rfl (hb hby at_136) rfl ((if0 _ _).trans (feq (fun q => hneq ((lw_eq pv ov).mp q))).2) (by decide) (by decide) ?_
        show Steps p.tables e below (T139.setTop (mkF m 143 #[.val (.long pv), .second, .val (.long qv), .second, .val (.int fv), .val (.ref wS), .val (.int ((fv >>> ((1 : Int32) &&& 31)) &&& (3 : Int32))), .val (.long ov), .second, .val (.int (1 : Int32)), .val (.int (0 : Int32)), .val (.int (1 : Int32)), .val (.long ov), .second, .unset] [(.int ((1 : Int32) + (0 : Int32)))])) _
        refine XS.iconst X139.here hx rfl (hb hby at_143) ?_
        show Steps p.tables e below (T139.setTop (mkF m 144 #[.val (.long pv), .second, .val (.long qv), .second, .val (.int fv), .val (.ref wS), .val (.int ((fv >>> ((1 : Int32) &&& 31)) &&& (3 : Int32))), .val (.long ov), .second, .val (.int (1 : Int32)), .val (.int (0 : Int32)), .val (.int (1 : Int32)), .val (.long ov), .second, .unset] [(.int (0 : Int32)), (.int ((1 : Int32) + (0 : Int32)))])) _
        refine XS.iadd X139.here hx rfl (hb hby at_144) rfl ?_
        show Steps p.tables e below (T139.setTop (mkF m 145 #[.val (.long pv), .second, .val (.long qv), .second, .val (.int fv), .val (.ref wS), .val (.int ((fv >>> ((1 : Int32) &&& 31)) &&& (3 : Int32))), .val (.long ov), .second, .val (.int (1 : Int32)), .val (.int (0 : Int32)), .val (.int (1 : Int32)), .val (.long ov), .second, .unset] [(.int (((1 : Int32) + (0 : Int32)) + (0 : Int32)))])) _
        refine XS.istore X139.here hx rfl (hb hby at_145) rfl (l' := #[.val (.long pv), .second, .val (.long qv), .second, .val (.int fv), .val (.ref wS), .val (.int ((fv >>> ((1 : Int32) &&& 31)) &&& (3 : Int32))), .val (.long ov), .second, .val (.int (1 : Int32)), .val (.int (0 : Int32)), .val (.int (1 : Int32)), .val (.long ov), .second, .val (.int (((1 : Int32) + (0 : Int32)) + (0 : Int32)))]) rfl ?_
        show Steps p.tables e below (T139.setTop (mkF m 147 #[.val (.long pv), .second, .val (.long qv), .second, .val (.int fv), .val (.ref wS), .val (.int ((fv >>> ((1 : Int32) &&& 31)) &&& (3 : Int32))), .val (.long ov), .second, .val (.int (1 : Int32)), .val (.int (0 : Int32)), .val (.int (1 : Int32)), .val (.long ov), .second, .val (.int (((1 : Int32) + (0 : Int32)) + (0 : Int32)))] [])) _
        refine XS.iload X139.here hx rfl (hb hby at_147) rfl ?_
        show Steps p.tables e below (T139.setTop (mkF m 149 #[.val (.long pv), .second, .val (.long qv), .second, .val (.int fv), .val (.ref wS), .val (.int ((fv >>> ((1 : Int32) &&& 31)) &&& (3 : Int32))), .val (.long ov), .second, .val (.int (1 : Int32)), .val (.int (0 : Int32)), .val (.int (1 : Int32)), .val (.long ov), .second, .val (.int (((1 : Int32) + (0 : Int32)) + (0 : Int32)))] [(.int (((1 : Int32) + (0 : Int32)) + (0 : Int32)))])) _
        refine XS.iconst X139.here hx rfl (hb hby at_149) ?_
        show Steps p.tables e below (T139.setTop (mkF m 150 #[.val (.long pv), .second, .val (.long qv), .second, .val (.int fv), .val (.ref wS), .val (.int ((fv >>> ((1 : Int32) &&& 31)) &&& (3 : Int32))), .val (.long ov), .second, .val (.int (1 : Int32)), .val (.int (0 : Int32)), .val (.int (1 : Int32)), .val (.long ov), .second, .val (.int (((1 : Int32) + (0 : Int32)) + (0 : Int32)))] [(.int (1 : Int32)), (.int (((1 : Int32) + (0 : Int32)) + (0 : Int32)))])) _
        refine XS.icmpYes X139.here hx rfl (pc0 := 150) (pc' := 155) rfl (hb hby at_150) rfl (teq (by decide : (((1 : Int32) + (0 : Int32)) + (0 : Int32)) = (1 : Int32))).1 (by decide) (by decide) ?_
        show Steps p.tables e below (T139.setTop (mkF m 155 #[.val (.long pv), .second, .val (.long qv), .second, .val (.int fv), .val (.ref wS), .val (.int ((fv >>> ((1 : Int32) &&& 31)) &&& (3 : Int32))), .val (.long ov), .second, .val (.int (1 : Int32)), .val (.int (0 : Int32)), .val (.int (1 : Int32)), .val (.long ov), .second, .val (.int (((1 : Int32) + (0 : Int32)) + (0 : Int32)))] [])) _
        refine XS.iload X139.here hx rfl (hb hby at_155) rfl ?_
        show Steps p.tables e below (T139.setTop (mkF m 157 #[.val (.long pv), .second, .val (.long qv), .second, .val (.int fv), .val (.ref wS), .val (.int ((fv >>> ((1 : Int32) &&& 31)) &&& (3 : Int32))), .val (.long ov), .second, .val (.int (1 : Int32)), .val (.int (0 : Int32)), .val (.int (1 : Int32)), .val (.long ov), .second, .val (.int (((1 : Int32) + (0 : Int32)) + (0 : Int32)))] [(.int (1 : Int32))])) _
        refine XS.iload X139.here hx rfl (hb hby at_157) rfl ?_
        show Steps p.tables e below (T139.setTop (mkF m 159 #[.val (.long pv), .second, .val (.long qv), .second, .val (.int fv), .val (.ref wS), .val (.int ((fv >>> ((1 : Int32) &&& 31)) &&& (3 : Int32))), .val (.long ov), .second, .val (.int (1 : Int32)), .val (.int (0 : Int32)), .val (.int (1 : Int32)), .val (.long ov), .second, .val (.int (((1 : Int32) + (0 : Int32)) + (0 : Int32)))] [(.int (1 : Int32)), (.int (1 : Int32))])) _
        refine XS.icmpYes X139.here hx rfl (pc0 := 159) (pc' := 164) rfl (hb hby at_159) rfl (teq (by decide : (1 : Int32) = (1 : Int32))).1 (by decide) (by decide) ?_
        show Steps p.tables e below (T139.setTop (mkF m 164 #[.val (.long pv), .second, .val (.long qv), .second, .val (.int fv), .val (.ref wS), .val (.int ((fv >>> ((1 : Int32) &&& 31)) &&& (3 : Int32))), .val (.long ov), .second, .val (.int (1 : Int32)), .val (.int (0 : Int32)), .val (.int (1 : Int32)), .val (.long ov), .second, .val (.int (((1 : Int32) + (0 : Int32)) + (0 : Int32)))] [])) _
        refine XS.iload X139.here hx rfl (hb hby at_164) rfl ?_
        show Steps p.tables e below (T139.setTop (mkF m 166 #[.val (.long pv), .second, .val (.long qv), .second, .val (.int fv), .val (.ref wS), .val (.int ((fv >>> ((1 : Int32) &&& 31)) &&& (3 : Int32))), .val (.long ov), .second, .val (.int (1 : Int32)), .val (.int (0 : Int32)), .val (.int (1 : Int32)), .val (.long ov), .second, .val (.int (((1 : Int32) + (0 : Int32)) + (0 : Int32)))] [(.int (1 : Int32))])) _
        refine XS.ifNo X139.here hx rfl (hb hby at_166) rfl ((if0 _ _).trans (feq (by decide : ¬ ((1 : Int32) = (0 : Int32)))).1) ?_
        show Steps p.tables e below (T139.setTop (mkF m 169 #[.val (.long pv), .second, .val (.long qv), .second, .val (.int fv), .val (.ref wS), .val (.int ((fv >>> ((1 : Int32) &&& 31)) &&& (3 : Int32))), .val (.long ov), .second, .val (.int (1 : Int32)), .val (.int (0 : Int32)), .val (.int (1 : Int32)), .val (.long ov), .second, .val (.int (((1 : Int32) + (0 : Int32)) + (0 : Int32)))] [])) _
        refine XS.lload X139.here hx rfl (hb hby at_169) rfl ?_
        show Steps p.tables e below (T139.setTop (mkF m 171 #[.val (.long pv), .second, .val (.long qv), .second, .val (.int fv), .val (.ref wS), .val (.int ((fv >>> ((1 : Int32) &&& 31)) &&& (3 : Int32))), .val (.long ov), .second, .val (.int (1 : Int32)), .val (.int (0 : Int32)), .val (.int (1 : Int32)), .val (.long ov), .second, .val (.int (((1 : Int32) + (0 : Int32)) + (0 : Int32)))] [(.long ov)])) _
        refine XS.lload X139.here hx rfl (hb hby at_171) rfl ?_
        show Steps p.tables e below (T139.setTop (mkF m 173 #[.val (.long pv), .second, .val (.long qv), .second, .val (.int fv), .val (.ref wS), .val (.int ((fv >>> ((1 : Int32) &&& 31)) &&& (3 : Int32))), .val (.long ov), .second, .val (.int (1 : Int32)), .val (.int (0 : Int32)), .val (.int (1 : Int32)), .val (.long ov), .second, .val (.int (((1 : Int32) + (0 : Int32)) + (0 : Int32)))] [(.long ov), (.long ov)])) _
        refine XS.lcmp X139.here hx rfl (hb hby at_173) rfl ?_
        show Steps p.tables e below (T139.setTop (mkF m 174 #[.val (.long pv), .second, .val (.long qv), .second, .val (.int fv), .val (.ref wS), .val (.int ((fv >>> ((1 : Int32) &&& 31)) &&& (3 : Int32))), .val (.long ov), .second, .val (.int (1 : Int32)), .val (.int (0 : Int32)), .val (.int (1 : Int32)), .val (.long ov), .second, .val (.int (((1 : Int32) + (0 : Int32)) + (0 : Int32)))] [(.int (lcmpW ov ov))])) _
        refine XS.ifYes X139.here hx rfl (pc0 := 174) (pc' := 179) rfl (hb hby at_174) rfl ((if0 _ _).trans (teq ((lw_eq ov ov).mpr (rfl : ov = ov))).1) (by decide) (by decide) ?_
        show Steps p.tables e below (T139.setTop (mkF m 179 #[.val (.long pv), .second, .val (.long qv), .second, .val (.int fv), .val (.ref wS), .val (.int ((fv >>> ((1 : Int32) &&& 31)) &&& (3 : Int32))), .val (.long ov), .second, .val (.int (1 : Int32)), .val (.int (0 : Int32)), .val (.int (1 : Int32)), .val (.long ov), .second, .val (.int (((1 : Int32) + (0 : Int32)) + (0 : Int32)))] [])) _
        refine XS.iload X139.here hx rfl (hb hby at_179) rfl ?_
        show Steps p.tables e below (T139.setTop (mkF m 181 #[.val (.long pv), .second, .val (.long qv), .second, .val (.int fv), .val (.ref wS), .val (.int ((fv >>> ((1 : Int32) &&& 31)) &&& (3 : Int32))), .val (.long ov), .second, .val (.int (1 : Int32)), .val (.int (0 : Int32)), .val (.int (1 : Int32)), .val (.long ov), .second, .val (.int (((1 : Int32) + (0 : Int32)) + (0 : Int32)))] [(.int (0 : Int32))])) _
        refine XS.ifYes X139.here hx rfl (pc0 := 181) (pc' := 193) rfl (hb hby at_181) rfl ((if0 _ _).trans (teq (by decide : (0 : Int32) = (0 : Int32))).1) (by decide) (by decide) ?_
        show Steps p.tables e below (T139.setTop (mkF m 193 #[.val (.long pv), .second, .val (.long qv), .second, .val (.int fv), .val (.ref wS), .val (.int ((fv >>> ((1 : Int32) &&& 31)) &&& (3 : Int32))), .val (.long ov), .second, .val (.int (1 : Int32)), .val (.int (0 : Int32)), .val (.int (1 : Int32)), .val (.long ov), .second, .val (.int (((1 : Int32) + (0 : Int32)) + (0 : Int32)))] [])) _
        refine XS.iconst X139.here hx rfl (hb hby at_193) ?_
        show Steps p.tables e below (T139.setTop (mkF m 194 #[.val (.long pv), .second, .val (.long qv), .second, .val (.int fv), .val (.ref wS), .val (.int ((fv >>> ((1 : Int32) &&& 31)) &&& (3 : Int32))), .val (.long ov), .second, .val (.int (1 : Int32)), .val (.int (0 : Int32)), .val (.int (1 : Int32)), .val (.long ov), .second, .val (.int (((1 : Int32) + (0 : Int32)) + (0 : Int32)))] [(.int (1 : Int32))])) _
        exact retN X139 hx (t := .boolean) Bd.returns (by simp) (hb hby at_194) hr
      · show Q0 pv qv fv h0 n0 _ T139.heap _
        exact ⟨rfl, N139⟩
    · have hneg : ¬ (ov < pv) := by simp only [Int64.lt_iff_toInt_lt, ← Int64.toInt_inj] at hc ⊢; omega
      have hneq : ¬ (pv < ov) := by simp only [Int64.lt_iff_toInt_lt, ← Int64.toInt_inj] at hc ⊢; omega
      have ra : (own_ma_s pv ov) = (0 : Int32) := by
        unfold own_ma_s
        first | (rw [if_pos hc]; done) | (rw [if_neg hneg]; done) | (rw [if_neg hneq]; done) | (rw [if_neg (by simp only [Int64.lt_iff_toInt_lt, ← Int64.toInt_inj] at hc ⊢; omega)]; first | done | exact hc.symm) | (rw [if_pos (by simp only [Int64.lt_iff_toInt_lt, ← Int64.toInt_inj] at hc ⊢; omega)]; first | done | exact hc.symm)
      have rb : (own_ma_s ov pv) = (0 : Int32) := by
        unfold own_ma_s
        first | (rw [if_pos hc]; done) | (rw [if_neg hneg]; done) | (rw [if_neg hneq]; done) | (rw [if_neg (by simp only [Int64.lt_iff_toInt_lt, ← Int64.toInt_inj] at hc ⊢; omega)]; first | done | exact hc.symm) | (rw [if_pos (by simp only [Int64.lt_iff_toInt_lt, ← Int64.toInt_inj] at hc ⊢; omega)]; first | done | exact hc.symm)
      have rc : (own_ma_b ov pv) = (0 : Int32) := by
        unfold own_ma_b
        first | (rw [if_pos hc]; done) | (rw [if_neg hneg]; done) | (rw [if_neg hneq]; done) | (rw [if_neg (by simp only [Int64.lt_iff_toInt_lt, ← Int64.toInt_inj] at hc ⊢; omega)]; first | done | exact hc.symm) | (rw [if_pos (by simp only [Int64.lt_iff_toInt_lt, ← Int64.toInt_inj] at hc ⊢; omega)]; first | done | exact hc.symm)
      have rl : (own_la_s pv ov) = pv := by
        unfold own_la_s
        unfold own_max
        first | (rw [if_pos hc]; done) | (rw [if_neg hneg]; done) | (rw [if_neg hneq]; done) | (rw [if_neg (by simp only [Int64.lt_iff_toInt_lt, ← Int64.toInt_inj] at hc ⊢; omega)]; first | done | exact hc.symm) | (rw [if_pos (by simp only [Int64.lt_iff_toInt_lt, ← Int64.toInt_inj] at hc ⊢; omega)]; first | done | exact hc.symm)
      have pre145 : ∀ t, Steps p.tables e below (T139.setTop (mkF m 111 #[.val (.long pv), .second, .val (.long qv), .second, .val (.int fv), .val (.ref wS), .val (.int ((fv >>> ((1 : Int32) &&& 31)) &&& (3 : Int32))), .val (.long ov), .second, .val (.int (0 : Int32)), .val (.int (own_ma_s ov pv)), .val (.int (own_ma_b ov pv)), .val (.long (own_la_s pv ov)), .second, .unset] [])) t → Steps p.tables e below (s₁.setTop (entryFrame m #[(.long pv), (.long qv), (.int fv)] maxLocals)) t := by
        have q := pre140
        rw [ra] at q
        exact q
      have pre146 : ∀ t, Steps p.tables e below (T139.setTop (mkF m 111 #[.val (.long pv), .second, .val (.long qv), .second, .val (.int fv), .val (.ref wS), .val (.int ((fv >>> ((1 : Int32) &&& 31)) &&& (3 : Int32))), .val (.long ov), .second, .val (.int (0 : Int32)), .val (.int (0 : Int32)), .val (.int (own_ma_b ov pv)), .val (.long (own_la_s pv ov)), .second, .unset] [])) t → Steps p.tables e below (s₁.setTop (entryFrame m #[(.long pv), (.long qv), (.int fv)] maxLocals)) t := by
        have q := pre145
        rw [rb] at q
        exact q
      have pre147 : ∀ t, Steps p.tables e below (T139.setTop (mkF m 111 #[.val (.long pv), .second, .val (.long qv), .second, .val (.int fv), .val (.ref wS), .val (.int ((fv >>> ((1 : Int32) &&& 31)) &&& (3 : Int32))), .val (.long ov), .second, .val (.int (0 : Int32)), .val (.int (0 : Int32)), .val (.int (0 : Int32)), .val (.long (own_la_s pv ov)), .second, .unset] [])) t → Steps p.tables e below (s₁.setTop (entryFrame m #[(.long pv), (.long qv), (.int fv)] maxLocals)) t := by
        have q := pre146
        rw [rc] at q
        exact q
      have pre148 : ∀ t, Steps p.tables e below (T139.setTop (mkF m 111 #[.val (.long pv), .second, .val (.long qv), .second, .val (.int fv), .val (.ref wS), .val (.int ((fv >>> ((1 : Int32) &&& 31)) &&& (3 : Int32))), .val (.long ov), .second, .val (.int (0 : Int32)), .val (.int (0 : Int32)), .val (.int (0 : Int32)), .val (.long pv), .second, .unset] [])) t → Steps p.tables e below (s₁.setTop (entryFrame m #[(.long pv), (.long qv), (.int fv)] maxLocals)) t := by
        have q := pre147
        rw [rl] at q
        exact q
      obtain ⟨fs, hr, hrun, hended, hW, hsame⟩ := X139.leave (v := some (.int (1 : Int32))) (fun h => by rw [Bd.returns] at h; cases h)
      refine ⟨_, _, pre148 _ ?_, hrun, hended, _, _, rfl, ?_, ⟨_, rfl⟩, hW, hsame.mono (by decide) (by decide)⟩
      · show Steps p.tables e below (T139.setTop (mkF m 111 #[.val (.long pv), .second, .val (.long qv), .second, .val (.int fv), .val (.ref wS), .val (.int ((fv >>> ((1 : Int32) &&& 31)) &&& (3 : Int32))), .val (.long ov), .second, .val (.int (0 : Int32)), .val (.int (0 : Int32)), .val (.int (0 : Int32)), .val (.long pv), .second, .unset] [])) _
        refine XS.iload X139.here hx rfl (hb hby at_111) rfl ?_
        show Steps p.tables e below (T139.setTop (mkF m 113 #[.val (.long pv), .second, .val (.long qv), .second, .val (.int fv), .val (.ref wS), .val (.int ((fv >>> ((1 : Int32) &&& 31)) &&& (3 : Int32))), .val (.long ov), .second, .val (.int (0 : Int32)), .val (.int (0 : Int32)), .val (.int (0 : Int32)), .val (.long pv), .second, .unset] [(.int (0 : Int32))])) _
        refine XS.ifYes X139.here hx rfl (pc0 := 113) (pc' := 120) rfl (hb hby at_113) rfl ((if0 _ _).trans (teq (by decide : (0 : Int32) = (0 : Int32))).1) (by decide) (by decide) ?_
        show Steps p.tables e below (T139.setTop (mkF m 120 #[.val (.long pv), .second, .val (.long qv), .second, .val (.int fv), .val (.ref wS), .val (.int ((fv >>> ((1 : Int32) &&& 31)) &&& (3 : Int32))), .val (.long ov), .second, .val (.int (0 : Int32)), .val (.int (0 : Int32)), .val (.int (0 : Int32)), .val (.long pv), .second, .unset] [])) _
        refine XS.iconst X139.here hx rfl (hb hby at_120) ?_
        show Steps p.tables e below (T139.setTop (mkF m 121 #[.val (.long pv), .second, .val (.long qv), .second, .val (.int fv), .val (.ref wS), .val (.int ((fv >>> ((1 : Int32) &&& 31)) &&& (3 : Int32))), .val (.long ov), .second, .val (.int (0 : Int32)), .val (.int (0 : Int32)), .val (.int (0 : Int32)), .val (.long pv), .second, .unset] [(.int (0 : Int32))])) _
        refine XS.iload X139.here hx rfl (hb hby at_121) rfl ?_
        show Steps p.tables e below (T139.setTop (mkF m 123 #[.val (.long pv), .second, .val (.long qv), .second, .val (.int fv), .val (.ref wS), .val (.int ((fv >>> ((1 : Int32) &&& 31)) &&& (3 : Int32))), .val (.long ov), .second, .val (.int (0 : Int32)), .val (.int (0 : Int32)), .val (.int (0 : Int32)), .val (.long pv), .second, .unset] [(.int (0 : Int32)), (.int (0 : Int32))])) _
        refine XS.ifYes X139.here hx rfl (pc0 := 123) (pc' := 130) rfl (hb hby at_123) rfl ((if0 _ _).trans (teq (by decide : (0 : Int32) = (0 : Int32))).1) (by decide) (by decide) ?_
        show Steps p.tables e below (T139.setTop (mkF m 130 #[.val (.long pv), .second, .val (.long qv), .second, .val (.int fv), .val (.ref wS), .val (.int ((fv >>> ((1 : Int32) &&& 31)) &&& (3 : Int32))), .val (.long ov), .second, .val (.int (0 : Int32)), .val (.int (0 : Int32)), .val (.int (0 : Int32)), .val (.long pv), .second, .unset] [(.int (0 : Int32))])) _
        refine XS.iconst X139.here hx rfl (hb hby at_130) ?_
        show Steps p.tables e below (T139.setTop (mkF m 131 #[.val (.long pv), .second, .val (.long qv), .second, .val (.int fv), .val (.ref wS), .val (.int ((fv >>> ((1 : Int32) &&& 31)) &&& (3 : Int32))), .val (.long ov), .second, .val (.int (0 : Int32)), .val (.int (0 : Int32)), .val (.int (0 : Int32)), .val (.long pv), .second, .unset] [(.int (0 : Int32)), (.int (0 : Int32))])) _
        refine XS.iadd X139.here hx rfl (hb hby at_131) rfl ?_
        show Steps p.tables e below (T139.setTop (mkF m 132 #[.val (.long pv), .second, .val (.long qv), .second, .val (.int fv), .val (.ref wS), .val (.int ((fv >>> ((1 : Int32) &&& 31)) &&& (3 : Int32))), .val (.long ov), .second, .val (.int (0 : Int32)), .val (.int (0 : Int32)), .val (.int (0 : Int32)), .val (.long pv), .second, .unset] [(.int ((0 : Int32) + (0 : Int32)))])) _
        refine XS.lloadN X139.here hx rfl (hb hby at_132) rfl ?_
        show Steps p.tables e below (T139.setTop (mkF m 133 #[.val (.long pv), .second, .val (.long qv), .second, .val (.int fv), .val (.ref wS), .val (.int ((fv >>> ((1 : Int32) &&& 31)) &&& (3 : Int32))), .val (.long ov), .second, .val (.int (0 : Int32)), .val (.int (0 : Int32)), .val (.int (0 : Int32)), .val (.long pv), .second, .unset] [(.long pv), (.int ((0 : Int32) + (0 : Int32)))])) _
        refine XS.lload X139.here hx rfl (hb hby at_133) rfl ?_
        show Steps p.tables e below (T139.setTop (mkF m 135 #[.val (.long pv), .second, .val (.long qv), .second, .val (.int fv), .val (.ref wS), .val (.int ((fv >>> ((1 : Int32) &&& 31)) &&& (3 : Int32))), .val (.long ov), .second, .val (.int (0 : Int32)), .val (.int (0 : Int32)), .val (.int (0 : Int32)), .val (.long pv), .second, .unset] [(.long ov), (.long pv), (.int ((0 : Int32) + (0 : Int32)))])) _
        refine XS.lcmp X139.here hx rfl (hb hby at_135) rfl ?_
        show Steps p.tables e below (T139.setTop (mkF m 136 #[.val (.long pv), .second, .val (.long qv), .second, .val (.int fv), .val (.ref wS), .val (.int ((fv >>> ((1 : Int32) &&& 31)) &&& (3 : Int32))), .val (.long ov), .second, .val (.int (0 : Int32)), .val (.int (0 : Int32)), .val (.int (0 : Int32)), .val (.long pv), .second, .unset] [(.int (lcmpW pv ov)), (.int ((0 : Int32) + (0 : Int32)))])) _
        refine XS.ifNo X139.here hx rfl (hb hby at_136) rfl ((if0 _ _).trans (teq ((lw_eq pv ov).mpr hc)).2) ?_
        show Steps p.tables e below (T139.setTop (mkF m 139 #[.val (.long pv), .second, .val (.long qv), .second, .val (.int fv), .val (.ref wS), .val (.int ((fv >>> ((1 : Int32) &&& 31)) &&& (3 : Int32))), .val (.long ov), .second, .val (.int (0 : Int32)), .val (.int (0 : Int32)), .val (.int (0 : Int32)), .val (.long pv), .second, .unset] [(.int ((0 : Int32) + (0 : Int32)))])) _
        refine XS.iconst X139.here hx rfl (hb hby at_139) ?_
        show Steps p.tables e below (T139.setTop (mkF m 140 #[.val (.long pv), .second, .val (.long qv), .second, .val (.int fv), .val (.ref wS), .val (.int ((fv >>> ((1 : Int32) &&& 31)) &&& (3 : Int32))), .val (.long ov), .second, .val (.int (0 : Int32)), .val (.int (0 : Int32)), .val (.int (0 : Int32)), .val (.long pv), .second, .unset] [(.int (1 : Int32)), (.int ((0 : Int32) + (0 : Int32)))])) _
        refine XS.goto X139.here hx rfl (pc0 := 140) (pc' := 144) rfl (hb hby at_140) (by decide) (by decide) ?_
        show Steps p.tables e below (T139.setTop (mkF m 144 #[.val (.long pv), .second, .val (.long qv), .second, .val (.int fv), .val (.ref wS), .val (.int ((fv >>> ((1 : Int32) &&& 31)) &&& (3 : Int32))), .val (.long ov), .second, .val (.int (0 : Int32)), .val (.int (0 : Int32)), .val (.int (0 : Int32)), .val (.long pv), .second, .unset] [(.int (1 : Int32)), (.int ((0 : Int32) + (0 : Int32)))])) _
        refine XS.iadd X139.here hx rfl (hb hby at_144) rfl ?_
        show Steps p.tables e below (T139.setTop (mkF m 145 #[.val (.long pv), .second, .val (.long qv), .second, .val (.int fv), .val (.ref wS), .val (.int ((fv >>> ((1 : Int32) &&& 31)) &&& (3 : Int32))), .val (.long ov), .second, .val (.int (0 : Int32)), .val (.int (0 : Int32)), .val (.int (0 : Int32)), .val (.long pv), .second, .unset] [(.int (((0 : Int32) + (0 : Int32)) + (1 : Int32)))])) _
        refine XS.istore X139.here hx rfl (hb hby at_145) rfl (l' := #[.val (.long pv), .second, .val (.long qv), .second, .val (.int fv), .val (.ref wS), .val (.int ((fv >>> ((1 : Int32) &&& 31)) &&& (3 : Int32))), .val (.long ov), .second, .val (.int (0 : Int32)), .val (.int (0 : Int32)), .val (.int (0 : Int32)), .val (.long pv), .second, .val (.int (((0 : Int32) + (0 : Int32)) + (1 : Int32)))]) rfl ?_
        show Steps p.tables e below (T139.setTop (mkF m 147 #[.val (.long pv), .second, .val (.long qv), .second, .val (.int fv), .val (.ref wS), .val (.int ((fv >>> ((1 : Int32) &&& 31)) &&& (3 : Int32))), .val (.long ov), .second, .val (.int (0 : Int32)), .val (.int (0 : Int32)), .val (.int (0 : Int32)), .val (.long pv), .second, .val (.int (((0 : Int32) + (0 : Int32)) + (1 : Int32)))] [])) _
        refine XS.iload X139.here hx rfl (hb hby at_147) rfl ?_
        show Steps p.tables e below (T139.setTop (mkF m 149 #[.val (.long pv), .second, .val (.long qv), .second, .val (.int fv), .val (.ref wS), .val (.int ((fv >>> ((1 : Int32) &&& 31)) &&& (3 : Int32))), .val (.long ov), .second, .val (.int (0 : Int32)), .val (.int (0 : Int32)), .val (.int (0 : Int32)), .val (.long pv), .second, .val (.int (((0 : Int32) + (0 : Int32)) + (1 : Int32)))] [(.int (((0 : Int32) + (0 : Int32)) + (1 : Int32)))])) _
        refine XS.iconst X139.here hx rfl (hb hby at_149) ?_
        show Steps p.tables e below (T139.setTop (mkF m 150 #[.val (.long pv), .second, .val (.long qv), .second, .val (.int fv), .val (.ref wS), .val (.int ((fv >>> ((1 : Int32) &&& 31)) &&& (3 : Int32))), .val (.long ov), .second, .val (.int (0 : Int32)), .val (.int (0 : Int32)), .val (.int (0 : Int32)), .val (.long pv), .second, .val (.int (((0 : Int32) + (0 : Int32)) + (1 : Int32)))] [(.int (1 : Int32)), (.int (((0 : Int32) + (0 : Int32)) + (1 : Int32)))])) _
        refine XS.icmpYes X139.here hx rfl (pc0 := 150) (pc' := 155) rfl (hb hby at_150) rfl (teq (by decide : (((0 : Int32) + (0 : Int32)) + (1 : Int32)) = (1 : Int32))).1 (by decide) (by decide) ?_
        show Steps p.tables e below (T139.setTop (mkF m 155 #[.val (.long pv), .second, .val (.long qv), .second, .val (.int fv), .val (.ref wS), .val (.int ((fv >>> ((1 : Int32) &&& 31)) &&& (3 : Int32))), .val (.long ov), .second, .val (.int (0 : Int32)), .val (.int (0 : Int32)), .val (.int (0 : Int32)), .val (.long pv), .second, .val (.int (((0 : Int32) + (0 : Int32)) + (1 : Int32)))] [])) _
        refine XS.iload X139.here hx rfl (hb hby at_155) rfl ?_
        show Steps p.tables e below (T139.setTop (mkF m 157 #[.val (.long pv), .second, .val (.long qv), .second, .val (.int fv), .val (.ref wS), .val (.int ((fv >>> ((1 : Int32) &&& 31)) &&& (3 : Int32))), .val (.long ov), .second, .val (.int (0 : Int32)), .val (.int (0 : Int32)), .val (.int (0 : Int32)), .val (.long pv), .second, .val (.int (((0 : Int32) + (0 : Int32)) + (1 : Int32)))] [(.int (0 : Int32))])) _
        refine XS.iload X139.here hx rfl (hb hby at_157) rfl ?_
        show Steps p.tables e below (T139.setTop (mkF m 159 #[.val (.long pv), .second, .val (.long qv), .second, .val (.int fv), .val (.ref wS), .val (.int ((fv >>> ((1 : Int32) &&& 31)) &&& (3 : Int32))), .val (.long ov), .second, .val (.int (0 : Int32)), .val (.int (0 : Int32)), .val (.int (0 : Int32)), .val (.long pv), .second, .val (.int (((0 : Int32) + (0 : Int32)) + (1 : Int32)))] [(.int (0 : Int32)), (.int (0 : Int32))])) _
        refine XS.icmpYes X139.here hx rfl (pc0 := 159) (pc' := 164) rfl (hb hby at_159) rfl (teq (by decide : (0 : Int32) = (0 : Int32))).1 (by decide) (by decide) ?_
        show Steps p.tables e below (T139.setTop (mkF m 164 #[.val (.long pv), .second, .val (.long qv), .second, .val (.int fv), .val (.ref wS), .val (.int ((fv >>> ((1 : Int32) &&& 31)) &&& (3 : Int32))), .val (.long ov), .second, .val (.int (0 : Int32)), .val (.int (0 : Int32)), .val (.int (0 : Int32)), .val (.long pv), .second, .val (.int (((0 : Int32) + (0 : Int32)) + (1 : Int32)))] [])) _
        refine XS.iload X139.here hx rfl (hb hby at_164) rfl ?_
        show Steps p.tables e below (T139.setTop (mkF m 166 #[.val (.long pv), .second, .val (.long qv), .second, .val (.int fv), .val (.ref wS), .val (.int ((fv >>> ((1 : Int32) &&& 31)) &&& (3 : Int32))), .val (.long ov), .second, .val (.int (0 : Int32)), .val (.int (0 : Int32)), .val (.int (0 : Int32)), .val (.long pv), .second, .val (.int (((0 : Int32) + (0 : Int32)) + (1 : Int32)))] [(.int (0 : Int32))])) _
        refine XS.ifYes X139.here hx rfl (pc0 := 166) (pc' := 179) rfl (hb hby at_166) rfl ((if0 _ _).trans (teq (by decide : (0 : Int32) = (0 : Int32))).1) (by decide) (by decide) ?_
        show Steps p.tables e below (T139.setTop (mkF m 179 #[.val (.long pv), .second, .val (.long qv), .second, .val (.int fv), .val (.ref wS), .val (.int ((fv >>> ((1 : Int32) &&& 31)) &&& (3 : Int32))), .val (.long ov), .second, .val (.int (0 : Int32)), .val (.int (0 : Int32)), .val (.int (0 : Int32)), .val (.long pv), .second, .val (.int (((0 : Int32) + (0 : Int32)) + (1 : Int32)))] [])) _
        refine XS.iload X139.here hx rfl (hb hby at_179) rfl ?_
        show Steps p.tables e below (T139.setTop (mkF m 181 #[.val (.long pv), .second, .val (.long qv), .second, .val (.int fv), .val (.ref wS), .val (.int ((fv >>> ((1 : Int32) &&& 31)) &&& (3 : Int32))), .val (.long ov), .second, .val (.int (0 : Int32)), .val (.int (0 : Int32)), .val (.int (0 : Int32)), .val (.long pv), .second, .val (.int (((0 : Int32) + (0 : Int32)) + (1 : Int32)))] [(.int (0 : Int32))])) _
        refine XS.ifYes X139.here hx rfl (pc0 := 181) (pc' := 193) rfl (hb hby at_181) rfl ((if0 _ _).trans (teq (by decide : (0 : Int32) = (0 : Int32))).1) (by decide) (by decide) ?_
        show Steps p.tables e below (T139.setTop (mkF m 193 #[.val (.long pv), .second, .val (.long qv), .second, .val (.int fv), .val (.ref wS), .val (.int ((fv >>> ((1 : Int32) &&& 31)) &&& (3 : Int32))), .val (.long ov), .second, .val (.int (0 : Int32)), .val (.int (0 : Int32)), .val (.int (0 : Int32)), .val (.long pv), .second, .val (.int (((0 : Int32) + (0 : Int32)) + (1 : Int32)))] [])) _
        refine XS.iconst X139.here hx rfl (hb hby at_193) ?_
        show Steps p.tables e below (T139.setTop (mkF m 194 #[.val (.long pv), .second, .val (.long qv), .second, .val (.int fv), .val (.ref wS), .val (.int ((fv >>> ((1 : Int32) &&& 31)) &&& (3 : Int32))), .val (.long ov), .second, .val (.int (0 : Int32)), .val (.int (0 : Int32)), .val (.int (0 : Int32)), .val (.long pv), .second, .val (.int (((0 : Int32) + (0 : Int32)) + (1 : Int32)))] [(.int (1 : Int32))])) _
        exact retN X139 hx (t := .boolean) Bd.returns (by simp) (hb hby at_194) hr
      · show Q0 pv qv fv h0 n0 _ T139.heap _
        exact ⟨rfl, N139⟩
    · have hneg : ¬ (pv < ov) := by simp only [Int64.lt_iff_toInt_lt, ← Int64.toInt_inj] at hc ⊢; omega
      have hneq : ¬ (pv = ov) := by simp only [Int64.lt_iff_toInt_lt, ← Int64.toInt_inj] at hc ⊢; omega
      have ra : (own_ma_s pv ov) = (0 : Int32) := by
        unfold own_ma_s
        first | (rw [if_pos hc]; done) | (rw [if_neg hneg]; done) | (rw [if_neg hneq]; done) | (rw [if_neg (by simp only [Int64.lt_iff_toInt_lt, ← Int64.toInt_inj] at hc ⊢; omega)]; first | done | exact hc.symm) | (rw [if_pos (by simp only [Int64.lt_iff_toInt_lt, ← Int64.toInt_inj] at hc ⊢; omega)]; first | done | exact hc.symm)
      have rb : (own_ma_s ov pv) = (1 : Int32) := by
        unfold own_ma_s
        first | (rw [if_pos hc]; done) | (rw [if_neg hneg]; done) | (rw [if_neg hneq]; done) | (rw [if_neg (by simp only [Int64.lt_iff_toInt_lt, ← Int64.toInt_inj] at hc ⊢; omega)]; first | done | exact hc.symm) | (rw [if_pos (by simp only [Int64.lt_iff_toInt_lt, ← Int64.toInt_inj] at hc ⊢; omega)]; first | done | exact hc.symm)
      have rc : (own_ma_b ov pv) = (0 : Int32) := by
        unfold own_ma_b
        first | (rw [if_pos hc]; done) | (rw [if_neg hneg]; done) | (rw [if_neg hneq]; done) | (rw [if_neg (by simp only [Int64.lt_iff_toInt_lt, ← Int64.toInt_inj] at hc ⊢; omega)]; first | done | exact hc.symm) | (rw [if_pos (by simp only [Int64.lt_iff_toInt_lt, ← Int64.toInt_inj] at hc ⊢; omega)]; first | done | exact hc.symm)
      have rl : (own_la_s pv ov) = pv := by
        unfold own_la_s
        unfold own_max
        first | (rw [if_pos hc]; done) | (rw [if_neg hneg]; done) | (rw [if_neg hneq]; done) | (rw [if_neg (by simp only [Int64.lt_iff_toInt_lt, ← Int64.toInt_inj] at hc ⊢; omega)]; first | done | exact hc.symm) | (rw [if_pos (by simp only [Int64.lt_iff_toInt_lt, ← Int64.toInt_inj] at hc ⊢; omega)]; first | done | exact hc.symm)
      have pre149 : ∀ t, Steps p.tables e below (T139.setTop (mkF m 111 #[.val (.long pv), .second, .val (.long qv), .second, .val (.int fv), .val (.ref wS), .val (.int ((fv >>> ((1 : Int32) &&& 31)) &&& (3 : Int32))), .val (.long ov), .second, .val (.int (0 : Int32)), .val (.int (own_ma_s ov pv)), .val (.int (own_ma_b ov pv)), .val (.long (own_la_s pv ov)), .second, .unset] [])) t → Steps p.tables e below (s₁.setTop (entryFrame m #[(.long pv), (.long qv), (.int fv)] maxLocals)) t := by
        have q := pre140
        rw [ra] at q
        exact q
      have pre150 : ∀ t, Steps p.tables e below (T139.setTop (mkF m 111 #[.val (.long pv), .second, .val (.long qv), .second, .val (.int fv), .val (.ref wS), .val (.int ((fv >>> ((1 : Int32) &&& 31)) &&& (3 : Int32))), .val (.long ov), .second, .val (.int (0 : Int32)), .val (.int (1 : Int32)), .val (.int (own_ma_b ov pv)), .val (.long (own_la_s pv ov)), .second, .unset] [])) t → Steps p.tables e below (s₁.setTop (entryFrame m #[(.long pv), (.long qv), (.int fv)] maxLocals)) t := by
        have q := pre149
        rw [rb] at q
        exact q
      have pre151 : ∀ t, Steps p.tables e below (T139.setTop (mkF m 111 #[.val (.long pv), .second, .val (.long qv), .second, .val (.int fv), .val (.ref wS), .val (.int ((fv >>> ((1 : Int32) &&& 31)) &&& (3 : Int32))), .val (.long ov), .second, .val (.int (0 : Int32)), .val (.int (1 : Int32)), .val (.int (0 : Int32)), .val (.long (own_la_s pv ov)), .second, .unset] [])) t → Steps p.tables e below (s₁.setTop (entryFrame m #[(.long pv), (.long qv), (.int fv)] maxLocals)) t := by
        have q := pre150
        rw [rc] at q
        exact q
      have pre152 : ∀ t, Steps p.tables e below (T139.setTop (mkF m 111 #[.val (.long pv), .second, .val (.long qv), .second, .val (.int fv), .val (.ref wS), .val (.int ((fv >>> ((1 : Int32) &&& 31)) &&& (3 : Int32))), .val (.long ov), .second, .val (.int (0 : Int32)), .val (.int (1 : Int32)), .val (.int (0 : Int32)), .val (.long pv), .second, .unset] [])) t → Steps p.tables e below (s₁.setTop (entryFrame m #[(.long pv), (.long qv), (.int fv)] maxLocals)) t := by
        have q := pre151
        rw [rl] at q
        exact q
      obtain ⟨fs, hr, hrun, hended, hW, hsame⟩ := X139.leave (v := some (.int (1 : Int32))) (fun h => by rw [Bd.returns] at h; cases h)
      refine ⟨_, _, pre152 _ ?_, hrun, hended, _, _, rfl, ?_, ⟨_, rfl⟩, hW, hsame.mono (by decide) (by decide)⟩
      · show Steps p.tables e below (T139.setTop (mkF m 111 #[.val (.long pv), .second, .val (.long qv), .second, .val (.int fv), .val (.ref wS), .val (.int ((fv >>> ((1 : Int32) &&& 31)) &&& (3 : Int32))), .val (.long ov), .second, .val (.int (0 : Int32)), .val (.int (1 : Int32)), .val (.int (0 : Int32)), .val (.long pv), .second, .unset] [])) _
        refine XS.iload X139.here hx rfl (hb hby at_111) rfl ?_
        show Steps p.tables e below (T139.setTop (mkF m 113 #[.val (.long pv), .second, .val (.long qv), .second, .val (.int fv), .val (.ref wS), .val (.int ((fv >>> ((1 : Int32) &&& 31)) &&& (3 : Int32))), .val (.long ov), .second, .val (.int (0 : Int32)), .val (.int (1 : Int32)), .val (.int (0 : Int32)), .val (.long pv), .second, .unset] [(.int (0 : Int32))])) _
        refine XS.ifYes X139.here hx rfl (pc0 := 113) (pc' := 120) rfl (hb hby at_113) rfl ((if0 _ _).trans (teq (by decide : (0 : Int32) = (0 : Int32))).1) (by decide) (by decide) ?_
        show Steps p.tables e below (T139.setTop (mkF m 120 #[.val (.long pv), .second, .val (.long qv), .second, .val (.int fv), .val (.ref wS), .val (.int ((fv >>> ((1 : Int32) &&& 31)) &&& (3 : Int32))), .val (.long ov), .second, .val (.int (0 : Int32)), .val (.int (1 : Int32)), .val (.int (0 : Int32)), .val (.long pv), .second, .unset] [])) _
        refine XS.iconst X139.here hx rfl (hb hby at_120) ?_
        show Steps p.tables e below (T139.setTop (mkF m 121 #[.val (.long pv), .second, .val (.long qv), .second, .val (.int fv), .val (.ref wS), .val (.int ((fv >>> ((1 : Int32) &&& 31)) &&& (3 : Int32))), .val (.long ov), .second, .val (.int (0 : Int32)), .val (.int (1 : Int32)), .val (.int (0 : Int32)), .val (.long pv), .second, .unset] [(.int (0 : Int32))])) _
        refine XS.iload X139.here hx rfl (hb hby at_121) rfl ?_
        show Steps p.tables e below (T139.setTop (mkF m 123 #[.val (.long pv), .second, .val (.long qv), .second, .val (.int fv), .val (.ref wS), .val (.int ((fv >>> ((1 : Int32) &&& 31)) &&& (3 : Int32))), .val (.long ov), .second, .val (.int (0 : Int32)), .val (.int (1 : Int32)), .val (.int (0 : Int32)), .val (.long pv), .second, .unset] [(.int (1 : Int32)), (.int (0 : Int32))])) _
        refine XS.ifNo X139.here hx rfl (hb hby at_123) rfl ((if0 _ _).trans (feq (by decide : ¬ ((1 : Int32) = (0 : Int32)))).1) ?_
        show Steps p.tables e below (T139.setTop (mkF m 126 #[.val (.long pv), .second, .val (.long qv), .second, .val (.int fv), .val (.ref wS), .val (.int ((fv >>> ((1 : Int32) &&& 31)) &&& (3 : Int32))), .val (.long ov), .second, .val (.int (0 : Int32)), .val (.int (1 : Int32)), .val (.int (0 : Int32)), .val (.long pv), .second, .unset] [(.int (0 : Int32))])) _
        refine XS.iconst X139.here hx rfl (hb hby at_126) ?_
        show Steps p.tables e below (T139.setTop (mkF m 127 #[.val (.long pv), .second, .val (.long qv), .second, .val (.int fv), .val (.ref wS), .val (.int ((fv >>> ((1 : Int32) &&& 31)) &&& (3 : Int32))), .val (.long ov), .second, .val (.int (0 : Int32)), .val (.int (1 : Int32)), .val (.int (0 : Int32)), .val (.long pv), .second, .unset] [(.int (1 : Int32)), (.int (0 : Int32))])) _
        refine XS.goto X139.here hx rfl (pc0 := 127) (pc' := 131) rfl (hb hby at_127) (by decide) (by decide) ?_
        show Steps p.tables e below (T139.setTop (mkF m 131 #[.val (.long pv), .second, .val (.long qv), .second, .val (.int fv), .val (.ref wS), .val (.int ((fv >>> ((1 : Int32) &&& 31)) &&& (3 : Int32))), .val (.long ov), .second, .val (.int (0 : Int32)), .val (.int (1 : Int32)), .val (.int (0 : Int32)), .val (.long pv), .second, .unset] [(.int (1 : Int32)), (.int (0 : Int32))])) _
        refine XS.iadd X139.here hx rfl (hb hby at_131) rfl ?_
        show Steps p.tables e below (T139.setTop (mkF m 132 #[.val (.long pv), .second, .val (.long qv), .second, .val (.int fv), .val (.ref wS), .val (.int ((fv >>> ((1 : Int32) &&& 31)) &&& (3 : Int32))), .val (.long ov), .second, .val (.int (0 : Int32)), .val (.int (1 : Int32)), .val (.int (0 : Int32)), .val (.long pv), .second, .unset] [(.int ((0 : Int32) + (1 : Int32)))])) _
        refine XS.lloadN X139.here hx rfl (hb hby at_132) rfl ?_
        show Steps p.tables e below (T139.setTop (mkF m 133 #[.val (.long pv), .second, .val (.long qv), .second, .val (.int fv), .val (.ref wS), .val (.int ((fv >>> ((1 : Int32) &&& 31)) &&& (3 : Int32))), .val (.long ov), .second, .val (.int (0 : Int32)), .val (.int (1 : Int32)), .val (.int (0 : Int32)), .val (.long pv), .second, .unset] [(.long pv), (.int ((0 : Int32) + (1 : Int32)))])) _
        refine XS.lload X139.here hx rfl (hb hby at_133) rfl ?_
        show Steps p.tables e below (T139.setTop (mkF m 135 #[.val (.long pv), .second, .val (.long qv), .second, .val (.int fv), .val (.ref wS), .val (.int ((fv >>> ((1 : Int32) &&& 31)) &&& (3 : Int32))), .val (.long ov), .second, .val (.int (0 : Int32)), .val (.int (1 : Int32)), .val (.int (0 : Int32)), .val (.long pv), .second, .unset] [(.long ov), (.long pv), (.int ((0 : Int32) + (1 : Int32)))])) _
        refine XS.lcmp X139.here hx rfl (hb hby at_135) rfl ?_
        show Steps p.tables e below (T139.setTop (mkF m 136 #[.val (.long pv), .second, .val (.long qv), .second, .val (.int fv), .val (.ref wS), .val (.int ((fv >>> ((1 : Int32) &&& 31)) &&& (3 : Int32))), .val (.long ov), .second, .val (.int (0 : Int32)), .val (.int (1 : Int32)), .val (.int (0 : Int32)), .val (.long pv), .second, .unset] [(.int (lcmpW pv ov)), (.int ((0 : Int32) + (1 : Int32)))])) _
        refine XS.ifYes X139.here hx rfl (pc0 := 136) (pc' := 143) rfl (hb hby at_136) rfl ((if0 _ _).trans (feq (fun q => hneq ((lw_eq pv ov).mp q))).2) (by decide) (by decide) ?_
        show Steps p.tables e below (T139.setTop (mkF m 143 #[.val (.long pv), .second, .val (.long qv), .second, .val (.int fv), .val (.ref wS), .val (.int ((fv >>> ((1 : Int32) &&& 31)) &&& (3 : Int32))), .val (.long ov), .second, .val (.int (0 : Int32)), .val (.int (1 : Int32)), .val (.int (0 : Int32)), .val (.long pv), .second, .unset] [(.int ((0 : Int32) + (1 : Int32)))])) _
        refine XS.iconst X139.here hx rfl (hb hby at_143) ?_
        show Steps p.tables e below (T139.setTop (mkF m 144 #[.val (.long pv), .second, .val (.long qv), .second, .val (.int fv), .val (.ref wS), .val (.int ((fv >>> ((1 : Int32) &&& 31)) &&& (3 : Int32))), .val (.long ov), .second, .val (.int (0 : Int32)), .val (.int (1 : Int32)), .val (.int (0 : Int32)), .val (.long pv), .second, .unset] [(.int (0 : Int32)), (.int ((0 : Int32) + (1 : Int32)))])) _
        refine XS.iadd X139.here hx rfl (hb hby at_144) rfl ?_
        show Steps p.tables e below (T139.setTop (mkF m 145 #[.val (.long pv), .second, .val (.long qv), .second, .val (.int fv), .val (.ref wS), .val (.int ((fv >>> ((1 : Int32) &&& 31)) &&& (3 : Int32))), .val (.long ov), .second, .val (.int (0 : Int32)), .val (.int (1 : Int32)), .val (.int (0 : Int32)), .val (.long pv), .second, .unset] [(.int (((0 : Int32) + (1 : Int32)) + (0 : Int32)))])) _
        refine XS.istore X139.here hx rfl (hb hby at_145) rfl (l' := #[.val (.long pv), .second, .val (.long qv), .second, .val (.int fv), .val (.ref wS), .val (.int ((fv >>> ((1 : Int32) &&& 31)) &&& (3 : Int32))), .val (.long ov), .second, .val (.int (0 : Int32)), .val (.int (1 : Int32)), .val (.int (0 : Int32)), .val (.long pv), .second, .val (.int (((0 : Int32) + (1 : Int32)) + (0 : Int32)))]) rfl ?_
        show Steps p.tables e below (T139.setTop (mkF m 147 #[.val (.long pv), .second, .val (.long qv), .second, .val (.int fv), .val (.ref wS), .val (.int ((fv >>> ((1 : Int32) &&& 31)) &&& (3 : Int32))), .val (.long ov), .second, .val (.int (0 : Int32)), .val (.int (1 : Int32)), .val (.int (0 : Int32)), .val (.long pv), .second, .val (.int (((0 : Int32) + (1 : Int32)) + (0 : Int32)))] [])) _
        refine XS.iload X139.here hx rfl (hb hby at_147) rfl ?_
        show Steps p.tables e below (T139.setTop (mkF m 149 #[.val (.long pv), .second, .val (.long qv), .second, .val (.int fv), .val (.ref wS), .val (.int ((fv >>> ((1 : Int32) &&& 31)) &&& (3 : Int32))), .val (.long ov), .second, .val (.int (0 : Int32)), .val (.int (1 : Int32)), .val (.int (0 : Int32)), .val (.long pv), .second, .val (.int (((0 : Int32) + (1 : Int32)) + (0 : Int32)))] [(.int (((0 : Int32) + (1 : Int32)) + (0 : Int32)))])) _
        refine XS.iconst X139.here hx rfl (hb hby at_149) ?_
        show Steps p.tables e below (T139.setTop (mkF m 150 #[.val (.long pv), .second, .val (.long qv), .second, .val (.int fv), .val (.ref wS), .val (.int ((fv >>> ((1 : Int32) &&& 31)) &&& (3 : Int32))), .val (.long ov), .second, .val (.int (0 : Int32)), .val (.int (1 : Int32)), .val (.int (0 : Int32)), .val (.long pv), .second, .val (.int (((0 : Int32) + (1 : Int32)) + (0 : Int32)))] [(.int (1 : Int32)), (.int (((0 : Int32) + (1 : Int32)) + (0 : Int32)))])) _
        refine XS.icmpYes X139.here hx rfl (pc0 := 150) (pc' := 155) rfl (hb hby at_150) rfl (teq (by decide : (((0 : Int32) + (1 : Int32)) + (0 : Int32)) = (1 : Int32))).1 (by decide) (by decide) ?_
        show Steps p.tables e below (T139.setTop (mkF m 155 #[.val (.long pv), .second, .val (.long qv), .second, .val (.int fv), .val (.ref wS), .val (.int ((fv >>> ((1 : Int32) &&& 31)) &&& (3 : Int32))), .val (.long ov), .second, .val (.int (0 : Int32)), .val (.int (1 : Int32)), .val (.int (0 : Int32)), .val (.long pv), .second, .val (.int (((0 : Int32) + (1 : Int32)) + (0 : Int32)))] [])) _
        refine XS.iload X139.here hx rfl (hb hby at_155) rfl ?_
        show Steps p.tables e below (T139.setTop (mkF m 157 #[.val (.long pv), .second, .val (.long qv), .second, .val (.int fv), .val (.ref wS), .val (.int ((fv >>> ((1 : Int32) &&& 31)) &&& (3 : Int32))), .val (.long ov), .second, .val (.int (0 : Int32)), .val (.int (1 : Int32)), .val (.int (0 : Int32)), .val (.long pv), .second, .val (.int (((0 : Int32) + (1 : Int32)) + (0 : Int32)))] [(.int (0 : Int32))])) _
        refine XS.iload X139.here hx rfl (hb hby at_157) rfl ?_
        show Steps p.tables e below (T139.setTop (mkF m 159 #[.val (.long pv), .second, .val (.long qv), .second, .val (.int fv), .val (.ref wS), .val (.int ((fv >>> ((1 : Int32) &&& 31)) &&& (3 : Int32))), .val (.long ov), .second, .val (.int (0 : Int32)), .val (.int (1 : Int32)), .val (.int (0 : Int32)), .val (.long pv), .second, .val (.int (((0 : Int32) + (1 : Int32)) + (0 : Int32)))] [(.int (0 : Int32)), (.int (0 : Int32))])) _
        refine XS.icmpYes X139.here hx rfl (pc0 := 159) (pc' := 164) rfl (hb hby at_159) rfl (teq (by decide : (0 : Int32) = (0 : Int32))).1 (by decide) (by decide) ?_
        show Steps p.tables e below (T139.setTop (mkF m 164 #[.val (.long pv), .second, .val (.long qv), .second, .val (.int fv), .val (.ref wS), .val (.int ((fv >>> ((1 : Int32) &&& 31)) &&& (3 : Int32))), .val (.long ov), .second, .val (.int (0 : Int32)), .val (.int (1 : Int32)), .val (.int (0 : Int32)), .val (.long pv), .second, .val (.int (((0 : Int32) + (1 : Int32)) + (0 : Int32)))] [])) _
        refine XS.iload X139.here hx rfl (hb hby at_164) rfl ?_
        show Steps p.tables e below (T139.setTop (mkF m 166 #[.val (.long pv), .second, .val (.long qv), .second, .val (.int fv), .val (.ref wS), .val (.int ((fv >>> ((1 : Int32) &&& 31)) &&& (3 : Int32))), .val (.long ov), .second, .val (.int (0 : Int32)), .val (.int (1 : Int32)), .val (.int (0 : Int32)), .val (.long pv), .second, .val (.int (((0 : Int32) + (1 : Int32)) + (0 : Int32)))] [(.int (0 : Int32))])) _
        refine XS.ifYes X139.here hx rfl (pc0 := 166) (pc' := 179) rfl (hb hby at_166) rfl ((if0 _ _).trans (teq (by decide : (0 : Int32) = (0 : Int32))).1) (by decide) (by decide) ?_
        show Steps p.tables e below (T139.setTop (mkF m 179 #[.val (.long pv), .second, .val (.long qv), .second, .val (.int fv), .val (.ref wS), .val (.int ((fv >>> ((1 : Int32) &&& 31)) &&& (3 : Int32))), .val (.long ov), .second, .val (.int (0 : Int32)), .val (.int (1 : Int32)), .val (.int (0 : Int32)), .val (.long pv), .second, .val (.int (((0 : Int32) + (1 : Int32)) + (0 : Int32)))] [])) _
        refine XS.iload X139.here hx rfl (hb hby at_179) rfl ?_
        show Steps p.tables e below (T139.setTop (mkF m 181 #[.val (.long pv), .second, .val (.long qv), .second, .val (.int fv), .val (.ref wS), .val (.int ((fv >>> ((1 : Int32) &&& 31)) &&& (3 : Int32))), .val (.long ov), .second, .val (.int (0 : Int32)), .val (.int (1 : Int32)), .val (.int (0 : Int32)), .val (.long pv), .second, .val (.int (((0 : Int32) + (1 : Int32)) + (0 : Int32)))] [(.int (1 : Int32))])) _
        refine XS.ifNo X139.here hx rfl (hb hby at_181) rfl ((if0 _ _).trans (feq (by decide : ¬ ((1 : Int32) = (0 : Int32)))).1) ?_
        show Steps p.tables e below (T139.setTop (mkF m 184 #[.val (.long pv), .second, .val (.long qv), .second, .val (.int fv), .val (.ref wS), .val (.int ((fv >>> ((1 : Int32) &&& 31)) &&& (3 : Int32))), .val (.long ov), .second, .val (.int (0 : Int32)), .val (.int (1 : Int32)), .val (.int (0 : Int32)), .val (.long pv), .second, .val (.int (((0 : Int32) + (1 : Int32)) + (0 : Int32)))] [])) _
        refine XS.lload X139.here hx rfl (hb hby at_184) rfl ?_
        show Steps p.tables e below (T139.setTop (mkF m 186 #[.val (.long pv), .second, .val (.long qv), .second, .val (.int fv), .val (.ref wS), .val (.int ((fv >>> ((1 : Int32) &&& 31)) &&& (3 : Int32))), .val (.long ov), .second, .val (.int (0 : Int32)), .val (.int (1 : Int32)), .val (.int (0 : Int32)), .val (.long pv), .second, .val (.int (((0 : Int32) + (1 : Int32)) + (0 : Int32)))] [(.long pv)])) _
        refine XS.lloadN X139.here hx rfl (hb hby at_186) rfl ?_
        show Steps p.tables e below (T139.setTop (mkF m 187 #[.val (.long pv), .second, .val (.long qv), .second, .val (.int fv), .val (.ref wS), .val (.int ((fv >>> ((1 : Int32) &&& 31)) &&& (3 : Int32))), .val (.long ov), .second, .val (.int (0 : Int32)), .val (.int (1 : Int32)), .val (.int (0 : Int32)), .val (.long pv), .second, .val (.int (((0 : Int32) + (1 : Int32)) + (0 : Int32)))] [(.long pv), (.long pv)])) _
        refine XS.lcmp X139.here hx rfl (hb hby at_187) rfl ?_
        show Steps p.tables e below (T139.setTop (mkF m 188 #[.val (.long pv), .second, .val (.long qv), .second, .val (.int fv), .val (.ref wS), .val (.int ((fv >>> ((1 : Int32) &&& 31)) &&& (3 : Int32))), .val (.long ov), .second, .val (.int (0 : Int32)), .val (.int (1 : Int32)), .val (.int (0 : Int32)), .val (.long pv), .second, .val (.int (((0 : Int32) + (1 : Int32)) + (0 : Int32)))] [(.int (lcmpW pv pv))])) _
        refine XS.ifYes X139.here hx rfl (pc0 := 188) (pc' := 193) rfl (hb hby at_188) rfl ((if0 _ _).trans (teq ((lw_eq pv pv).mpr (rfl : pv = pv))).1) (by decide) (by decide) ?_
        show Steps p.tables e below (T139.setTop (mkF m 193 #[.val (.long pv), .second, .val (.long qv), .second, .val (.int fv), .val (.ref wS), .val (.int ((fv >>> ((1 : Int32) &&& 31)) &&& (3 : Int32))), .val (.long ov), .second, .val (.int (0 : Int32)), .val (.int (1 : Int32)), .val (.int (0 : Int32)), .val (.long pv), .second, .val (.int (((0 : Int32) + (1 : Int32)) + (0 : Int32)))] [])) _
        refine XS.iconst X139.here hx rfl (hb hby at_193) ?_
        show Steps p.tables e below (T139.setTop (mkF m 194 #[.val (.long pv), .second, .val (.long qv), .second, .val (.int fv), .val (.ref wS), .val (.int ((fv >>> ((1 : Int32) &&& 31)) &&& (3 : Int32))), .val (.long ov), .second, .val (.int (0 : Int32)), .val (.int (1 : Int32)), .val (.int (0 : Int32)), .val (.long pv), .second, .val (.int (((0 : Int32) + (1 : Int32)) + (0 : Int32)))] [(.int (1 : Int32))])) _
        exact retN X139 hx (t := .boolean) Bd.returns (by simp) (hb hby at_194) hr
      · show Q0 pv qv fv h0 n0 _ T139.heap _
        exact ⟨rfl, N139⟩
theorem own_eqi {a : Term} {n : Int32} {args : Array Value} {first s : State} {o : Option Outcome} {idx : List Nat} (h : (Jvm.Cond.eq a (.int n)).value args first o s idx = some true) : a.eval args first o idx s = some (.int n) := by
  simp only [Cond.value, Term.eval] at h
  cases ha : a.eval args first o idx s with
  | none => simp [ha] at h
  | some x => cases x <;> simp [ha] at h ⊢; exact h
set_option maxRecDepth 65536 in
set_option maxHeartbeats 40000000 in
theorem comes_1 {Post : Tables → Env → Array Value → State → Outcome → State → Prop} (hpost : ∀ tb e args s v u, (limb_1_1.after args s (.returned v) u = true ∧ limb_1_2.after args s (.returned v) u = true ∧ True) → FrameEnd s (.returned v) u (Jvm.fieldLocs frame_1_writes args s ++ Jvm.arrayLocs frame_1_arrays args s ++ Jvm.staticLocs frame_1_statics s) 0 0 → Post tb e args s (.returned v) u) :
    ArmFor flags0 classFile x code maxLocals ret World_1 tables_1 room_1 Calls_1 rest_1 Pre_1 Post := by
  intro l hfl _ _ p e ha hc hk s m args below hf hA hF happ hP
  obtain ⟨hcalls, hrest, hpre⟩ := hP
  obtain ⟨-, -, -, hnamed, -, -, -, hat⟩ := (Spec.applies_iff hf).mp happ
  obtain ⟨hg, hn⟩ := and_e (Cond.before_iff.mp (show (Jvm.Cond.and given_1 narrow_1).before args s = true from hpre))
  obtain ⟨ga0, gb0⟩ := and_e hg
  obtain ⟨ga1, gb1⟩ := and_e gb0
  obtain ⟨ga2, gb2⟩ := and_e gb1
  obtain ⟨w0, w1, w2, rfl⟩ : ∃ w0 w1 w2 : Value, args = #[w0, w1, w2] := by
    have hs : args.size = 3 := by simpa [Cond.value, given_1] using ga0
    obtain ⟨L⟩ := args
    match L, hs with
    | [w0, w1, w2], _ => exact ⟨w0, w1, w2, rfl⟩
  have hw := fun d (hd : d ∈ tables_1) => atoms_spec (ws := Jvm.Cond.code x code maxLocals ret :: tables_1) hat d (List.mem_cons_of_mem _ hd)
  have hfit : Fit s := fun {y c} hc i hi => by
    obtain ⟨ha, rfl⟩ := Array.getElem?_eq_some_iff.mp hc
    have q := List.all_eq_true.mp ((Array.all_eq_true_iff_forall_mem.mp hF) _ (Array.getElem_mem ha)) i (List.mem_range.mpr hi)
    simpa [Array.getElem?_eq_getElem hi] using q
  obtain ⟨i0, ei0⟩ := isL_v ga1
  obtain rfl : w0 = (.long i0) := Option.some.inj ei0
  obtain ⟨i1, ei1⟩ := isL_v ga2
  obtain rfl : w1 = (.long i1) := Option.some.inj ei1
  obtain ⟨i2, ei2⟩ := is_v gb2
  obtain rfl : w2 = (.int i2) := Option.some.inj ei2
  obtain ⟨nB, hn⟩ := and_e hn
  obtain ⟨nS, hn⟩ := and_e hn
  obtain ⟨oS, oB⟩ := and_e hn
  obtain ⟨wB, eB⟩ := exa_v nB
  obtain ⟨wS, eS⟩ := exa_v nS
  have S_B := Sta.start eB (Or.inr ⟨(hw _ (List.mem_of_getElem? (i := 1) rfl)), (hw _ (List.mem_of_getElem? (i := 2) rfl))⟩)
  have S_S := Sta.start eS (Or.inr ⟨(hw _ (List.mem_of_getElem? (i := 1) rfl)), (hw _ (List.mem_of_getElem? (i := 15) rfl))⟩)
  have E_B := Exa.start eB nB
  have E_S := Exa.start eS nS
  have hne : wS ≠ wB := fun q => by
    have a := own_eqi oS
    have b := own_eqi oB
    rw [fld_at eS] at a
    rw [fld_at eB] at b
    rw [q, b] at a
    exact absurd a (by decide)
  obtain ⟨n, o, h1, h2, h3, _, L, rfl, ⟨rfl, N⟩, hq⟩ := rm0 l s _ hw tables_1 i0 i1 i2 wB wS s.heap s.heap.size (Nat.le_refl _) S_B S_S hne E_B E_S p e ha hc hk s m _ below hf ((Spec.applies_iff_loose hf).mp happ).1 ⟨rfl, State.Warmed39.refl s, rfl⟩ trivial
  refine ⟨n, _, h1, h2, h3, hpost _ _ _ _ _ _ ⟨Cond.after_iff.mpr rfl, Cond.after_iff.mpr (eq_i res_at (Term.int_eval (1)) rfl), trivial⟩ ⟨hq.1, hq.2.1, (hq.2.2.sift fun y hy => Or.inr (N y hy)).mono (by decide) (by decide)⟩⟩
theorem main_1_1 : Claimed_1_1 := comes_1 fun _ _ _ _ _ _ h hF => ⟨h.1, hF⟩
theorem main_1_2 : Claimed_1_2 := comes_1 fun _ _ _ _ _ _ h hF => ⟨h.2.1, hF⟩
end Jvm.Pilot.@@N@@
namespace Jvm.Pilot.@@N@@
open Jvm Jvm.ClassFile Sem Op Lib Jvm.Free Jvm.Stand Jvm.Pilot.@@N@@.Jvm.D
/-! MADE BY PROGRAM (witnessworld.py) out of the Statement's table words and the real class files: 13 classes; the members and pool entries that the words name. The judged class is class 1, her method 1. -/
namespace start1
open Jvm.ClassFile
def u (s : String) : CpInfo := .utf8 (stringToUtf16 s)
/-- a pool by its gaps: so many unusable entries, then the entry; so many at the end -/
def gap : Nat → List CpInfo → List CpInfo
  | 0, r => r
  | n + 1, r => .unusable :: gap n r
def poolList (es : List (Nat × CpInfo)) (last : Nat) : List CpInfo := es.foldr (fun e r => gap e.1 (e.2 :: r)) (gap last [])
def pool (es : List (Nat × CpInfo)) (last : Nat) : Array CpInfo := ⟨poolList es last⟩
def fileOf (pool : Array CpInfo) (this : Nat) (attrs : Array Attribute := #[]) (ms : Array MethodInfo := #[]) (fl : Nat := 33) (sup : Nat := 0) (ifs : Array Nat := #[]) (fds : Array FieldInfo := #[]) : ClassFile where
  minorVersion := 0
  majorVersion := 65
  constantPool := pool
  accessFlags := fl
  thisClass := this
  superClass := sup
  interfaces := ifs
  fields := fds
  methods := ms
  attributes := attrs
def plain (name : String) (sup : Option ClassId) : Class where
  name := name
  kind := .ordinary
  loader := none
  accessFlags := 33
  super := sup
  interfaces := #[]
  cf := none
  fields := #[]
  methods := #[]
  instanceTypes := #[]
  staticTypes := #[]
  resolved := #[]
  callSites := []
  init := .initialized
  statics := none
  mirror := none

def pool0 : Array CpInfo := pool [(5, u "<init>"), (0, u "()V"), (1, .class_ 10), (1, u "java/lang/Object")] 113

def k0m0 : Method := { name := "<init>", desc := "()V", sig := { parameters := [], returnType := none }, accessFlags := 1, code := none }
/-- java/lang/Object -/
def k0 : Class := { plain "java/lang/Object" none with
  accessFlags := 33
  interfaces := #[]
  cf := some (fileOf pool0 8 #[] #[{ accessFlags := 1, nameIndex := 5, descriptorIndex := 6, attributes := #[] }] 33 0 #[] #[])
  fields := #[]
  methods := #[k0m0]
  instanceTypes := #[]
  staticTypes := #[]
  resolved := Array.replicate 124 none
  statics := none }

def pool1 : Array CpInfo := pool [(2, .class_ 4), (1, u "java/lang/Object"), (0, u "<init>"), (0, u "()V"), (0, .fieldref 8 9), (0, .class_ 10), (0, .nameAndType 11 12), (0, u "com/example/tidebook/tidebook/book/Side"), (0, u "BUY"), (0, u "Lcom/example/tidebook/tidebook/book/Side;"), (0, .fieldref 8 14), (0, .nameAndType 15 12), (0, u "SELL"), (0, .methodref 8 17), (0, .nameAndType 18 19), (0, u "isMoreAggressive"), (0, u "(JJ)Z"), (0, .methodref 8 21), (0, .nameAndType 22 23), (0, u "opposite"), (0, u "()Lcom/example/tidebook/tidebook/book/Side;"), (0, .methodref 8 25), (0, .nameAndType 26 27), (0, u "lessAggressive"), (0, u "(JJ)J"), (0, .class_ 29), (0, u "com/example/tidebook/tidebook/book/SideIsMoreAggressivePinLaw"), (2, u "law"), (0, u "(JJI)Z")] 3

def k1m0 : Method := { name := "<init>", desc := "()V", sig := { parameters := [], returnType := none }, accessFlags := 2, code := none }
def k1c1 : Code := { maxStack := 5, maxLocals := 15, code := code, exceptionTable := #[], attributes := #[] }
def k1m1 : Method := { name := "law", desc := "(JJI)Z", sig := { parameters := [.long, .long, .int], returnType := some .boolean }, accessFlags := 9, code := some k1c1 }
/-- com/example/tidebook/tidebook/book/SideIsMoreAggressivePinLaw -/
def k1 : Class := { plain "com/example/tidebook/tidebook/book/SideIsMoreAggressivePinLaw" (some 0) with
  accessFlags := 49
  interfaces := #[]
  cf := some (fileOf pool1 28 #[] #[{ accessFlags := 2, nameIndex := 5, descriptorIndex := 6, attributes := #[] }, { accessFlags := 9, nameIndex := 32, descriptorIndex := 33, attributes := #[] }] 49 2 #[] #[])
  fields := #[]
  methods := #[k1m0, k1m1]
  instanceTypes := #[]
  staticTypes := #[]
  resolved := Array.replicate 37 none
  statics := none }

def pool2 : Array CpInfo := pool [(1, .class_ 2), (0, u "java/lang/constant/Constable"), (0, .class_ 4), (0, u "java/lang/Object")] 6

/-- java/lang/constant/Constable -/
def k2 : Class := { plain "java/lang/constant/Constable" (some 0) with
  accessFlags := 1537
  interfaces := #[]
  cf := some (fileOf pool2 1 #[] #[] 1537 3 #[] #[])
  fields := #[]
  methods := #[]
  instanceTypes := #[]
  staticTypes := #[]
  resolved := Array.replicate 11 none
  statics := none }

def pool3 : Array CpInfo := pool [(1, .class_ 2), (0, u "java/lang/Comparable"), (0, .class_ 4), (0, u "java/lang/Object")] 7

/-- java/lang/Comparable -/
def k3 : Class := { plain "java/lang/Comparable" (some 0) with
  accessFlags := 1537
  interfaces := #[]
  cf := some (fileOf pool3 1 #[] #[] 1537 3 #[] #[])
  fields := #[]
  methods := #[]
  instanceTypes := #[]
  staticTypes := #[]
  resolved := Array.replicate 12 none
  statics := none }

def pool4 : Array CpInfo := pool [(1, .class_ 2), (0, u "java/io/Serializable"), (0, .class_ 4), (0, u "java/lang/Object")] 2

/-- java/io/Serializable -/
def k4 : Class := { plain "java/io/Serializable" (some 0) with
  accessFlags := 1537
  interfaces := #[]
  cf := some (fileOf pool4 1 #[] #[] 1537 3 #[] #[])
  fields := #[]
  methods := #[]
  instanceTypes := #[]
  staticTypes := #[]
  resolved := Array.replicate 7 none
  statics := none }

def pool5 : Array CpInfo := pool [(2, .class_ 4), (1, u "java/lang/Enum"), (0, u "name"), (0, u "Ljava/lang/String;"), (2, u "ordinal"), (0, u "I"), (1, .class_ 14), (1, u "java/lang/Object"), (4, u "hash"), (86, .class_ 108), (1, u "java/lang/Enum$EnumDesc"), (2, .class_ 112), (0, u "java/lang/constant/Constable"), (0, .class_ 114), (0, u "java/lang/Comparable"), (0, .class_ 116), (0, u "java/io/Serializable")] 87

/-- java/lang/Enum -/
def k5 : Class := { plain "java/lang/Enum" (some 0) with
  accessFlags := 1057
  interfaces := #[2, 3, 4]
  cf := some (fileOf pool5 2 #[.nestMembers #[106]] #[] 1057 12 #[111, 113, 115] #[{ accessFlags := 18, nameIndex := 5, descriptorIndex := 6, attributes := #[] }, { accessFlags := 18, nameIndex := 9, descriptorIndex := 10, attributes := #[] }, { accessFlags := 2, nameIndex := 19, descriptorIndex := 10, attributes := #[] }])
  fields := #[{ name := "name", type := (.object "java/lang/String"), accessFlags := 18, slot := 0, constantValue := 0 }, { name := "ordinal", type := .int, accessFlags := 18, slot := 1, constantValue := 0 }, { name := "hash", type := .int, accessFlags := 2, slot := 2, constantValue := 0 }]
  methods := #[]
  instanceTypes := #[(.object "java/lang/String"), .int, .int]
  staticTypes := #[]
  resolved := Array.replicate 204 none
  statics := none }

def pool6 : Array CpInfo := pool [(1, .class_ 2), (0, u "com/example/tidebook/tidebook/book/Side"), (0, .fieldref 1 4), (0, .nameAndType 5 6), (0, u "BUY"), (0, u "Lcom/example/tidebook/tidebook/book/Side;"), (0, .fieldref 1 8), (0, .nameAndType 9 6), (0, u "SELL"), (2, u "$VALUES"), (0, u "[Lcom/example/tidebook/tidebook/book/Side;"), (6, .class_ 22), (1, u "java/lang/Enum"), (9, u "(JJ)J"), (9, .methodref 43 44), (0, .class_ 45), (0, .nameAndType 46 32), (0, u "java/lang/Math"), (0, u "min"), (0, .methodref 43 48), (0, .nameAndType 49 32), (0, u "max"), (14, u "opposite"), (0, u "()Lcom/example/tidebook/tidebook/book/Side;"), (2, u "(JJ)Z"), (1, u "lessAggressive"), (0, u "isMoreAggressive")] 4

def k6c0 : Code := { maxStack := 2, maxLocals := 1, code := prog_12_method_4_code, exceptionTable := #[], attributes := #[] }
def k6m0 : Method := { name := "opposite", desc := "()Lcom/example/tidebook/tidebook/book/Side;", sig := { parameters := [], returnType := some (.object "com/example/tidebook/tidebook/book/Side") }, accessFlags := 1, code := some k6c0 }
def k6c1 : Code := { maxStack := 4, maxLocals := 5, code := prog_12_method_8_code, exceptionTable := #[], attributes := #[] }
def k6m1 : Method := { name := "lessAggressive", desc := "(JJ)J", sig := { parameters := [.long, .long], returnType := some .long }, accessFlags := 0, code := some k6c1 }
def k6c2 : Code := { maxStack := 4, maxLocals := 5, code := prog_12_method_9_code, exceptionTable := #[], attributes := #[] }
def k6m2 : Method := { name := "isMoreAggressive", desc := "(JJ)Z", sig := { parameters := [.long, .long], returnType := some .boolean }, accessFlags := 0, code := some k6c2 }
/-- com/example/tidebook/tidebook/book/Side -/
def k6 : Class := { plain "com/example/tidebook/tidebook/book/Side" (some 5) with
  accessFlags := 16433
  interfaces := #[]
  cf := some (fileOf pool6 1 #[] #[{ accessFlags := 1, nameIndex := 64, descriptorIndex := 65, attributes := #[] }, { accessFlags := 0, nameIndex := 70, descriptorIndex := 32, attributes := #[] }, { accessFlags := 0, nameIndex := 71, descriptorIndex := 68, attributes := #[] }] 16433 20 #[] #[{ accessFlags := 16409, nameIndex := 5, descriptorIndex := 6, attributes := #[] }, { accessFlags := 16409, nameIndex := 9, descriptorIndex := 6, attributes := #[] }, { accessFlags := 4122, nameIndex := 12, descriptorIndex := 13, attributes := #[] }])
  fields := #[{ name := "BUY", type := (.object "com/example/tidebook/tidebook/book/Side"), accessFlags := 16409, slot := 0, constantValue := 0 }, { name := "SELL", type := (.object "com/example/tidebook/tidebook/book/Side"), accessFlags := 16409, slot := 1, constantValue := 0 }, { name := "$VALUES", type := (.array (.object "com/example/tidebook/tidebook/book/Side")), accessFlags := 4122, slot := 2, constantValue := 0 }]
  methods := #[k6m0, k6m1, k6m2]
  instanceTypes := #[(.object "java/lang/String"), .int, .int]
  staticTypes := #[(.object "com/example/tidebook/tidebook/book/Side"), (.object "com/example/tidebook/tidebook/book/Side"), (.array (.object "com/example/tidebook/tidebook/book/Side"))]
  resolved := Array.replicate 76 none
  statics := some 0 }

def pool7 : Array CpInfo := pool [(1, .class_ 2), (0, u "java/lang/Math"), (1, .class_ 6), (1, u "java/lang/Object"), (0, u "<init>"), (0, u "()V"), (89, .class_ 100), (1, u "java/lang/Math$RandomNumberGeneratorHolder"), (20, u "(JJ)J"), (50, u "negativeZeroFloatBits"), (0, u "J"), (2, u "negativeZeroDoubleBits"), (21, u "max"), (2, u "min"), (43, u "$assertionsDisabled"), (0, u "Z"), (91, u "twoToTheDoubleScaleDown"), (0, u "D"), (4, u "twoToTheDoubleScaleUp"), (9, u "E"), (3, u "PI"), (2, u "TAU"), (2, u "DEGREES_TO_RADIANS"), (0, u "RADIANS_TO_DEGREES")] 94

def k7m0 : Method := { name := "<init>", desc := "()V", sig := { parameters := [], returnType := none }, accessFlags := 2, code := none }
def k7c1 : Code := { maxStack := 4, maxLocals := 4, code := jdk_29_method_66_code, exceptionTable := #[], attributes := #[] }
def k7m1 : Method := { name := "max", desc := "(JJ)J", sig := { parameters := [.long, .long], returnType := some .long }, accessFlags := 9, code := some k7c1 }
def k7c2 : Code := { maxStack := 4, maxLocals := 4, code := jdk_29_method_70_code, exceptionTable := #[], attributes := #[] }
def k7m2 : Method := { name := "min", desc := "(JJ)J", sig := { parameters := [.long, .long], returnType := some .long }, accessFlags := 9, code := some k7c2 }
/-- java/lang/Math -/
def k7 : Class := { plain "java/lang/Math" (some 0) with
  accessFlags := 49
  interfaces := #[]
  cf := some (fileOf pool7 1 #[.nestMembers #[98]] #[{ accessFlags := 2, nameIndex := 7, descriptorIndex := 8, attributes := #[] }, { accessFlags := 9, nameIndex := 198, descriptorIndex := 121, attributes := #[] }, { accessFlags := 9, nameIndex := 201, descriptorIndex := 121, attributes := #[] }] 49 4 #[] #[{ accessFlags := 25, nameIndex := 354, descriptorIndex := 339, attributes := #[] }, { accessFlags := 25, nameIndex := 358, descriptorIndex := 339, attributes := #[] }, { accessFlags := 25, nameIndex := 361, descriptorIndex := 339, attributes := #[] }, { accessFlags := 26, nameIndex := 364, descriptorIndex := 339, attributes := #[] }, { accessFlags := 26, nameIndex := 365, descriptorIndex := 339, attributes := #[] }, { accessFlags := 26, nameIndex := 172, descriptorIndex := 173, attributes := #[] }, { accessFlags := 26, nameIndex := 176, descriptorIndex := 173, attributes := #[] }, { accessFlags := 8, nameIndex := 344, descriptorIndex := 339, attributes := #[] }, { accessFlags := 8, nameIndex := 338, descriptorIndex := 339, attributes := #[] }, { accessFlags := 4120, nameIndex := 245, descriptorIndex := 246, attributes := #[] }])
  fields := #[{ name := "E", type := .double, accessFlags := 25, slot := 0, constantValue := 0 }, { name := "PI", type := .double, accessFlags := 25, slot := 1, constantValue := 0 }, { name := "TAU", type := .double, accessFlags := 25, slot := 2, constantValue := 0 }, { name := "DEGREES_TO_RADIANS", type := .double, accessFlags := 26, slot := 3, constantValue := 0 }, { name := "RADIANS_TO_DEGREES", type := .double, accessFlags := 26, slot := 4, constantValue := 0 }, { name := "negativeZeroFloatBits", type := .long, accessFlags := 26, slot := 5, constantValue := 0 }, { name := "negativeZeroDoubleBits", type := .long, accessFlags := 26, slot := 6, constantValue := 0 }, { name := "twoToTheDoubleScaleUp", type := .double, accessFlags := 8, slot := 7, constantValue := 0 }, { name := "twoToTheDoubleScaleDown", type := .double, accessFlags := 8, slot := 8, constantValue := 0 }, { name := "$assertionsDisabled", type := .boolean, accessFlags := 4120, slot := 9, constantValue := 0 }]
  methods := #[k7m0, k7m1, k7m2]
  instanceTypes := #[]
  staticTypes := #[.double, .double, .double, .double, .double, .long, .long, .double, .double, .boolean]
  resolved := Array.replicate 460 none
  statics := none }

def pool8 : Array CpInfo := pool [(1, u "java/lang/Cloneable"), (0, .class_ 1), (0, u "java/lang/Object"), (0, .class_ 3)] 3

/-- java/lang/Cloneable -/
def k8 : Class := { plain "java/lang/Cloneable" (some 0) with
  accessFlags := 1537
  interfaces := #[]
  cf := some (fileOf pool8 2 #[] #[] 1537 4 #[] #[])
  fields := #[]
  methods := #[]
  instanceTypes := #[]
  staticTypes := #[]
  resolved := Array.replicate 8 none
  statics := none }

/-- the primitive byte -/
def k9 : Class := { plain "byte" none with kind := .primitive 'B', accessFlags := 0x411 }
/-- [B -/
def k10 : Class := { plain "[B" (some 0) with kind := .array 9 .byte, interfaces := #[8, 4], accessFlags := 1041 }

/-- the primitive int -/
def k11 : Class := { plain "int" none with kind := .primitive 'I', accessFlags := 0x411 }
/-- [I -/
def k12 : Class := { plain "[I" (some 0) with kind := .array 11 .int, interfaces := #[8, 4], accessFlags := 1041 }

def heap : Heap := #[{ cls := 6, slots := #[.ref 1, .ref 2, .null], vm := .statics 6 },
  { cls := 6, slots := #[.null, .int 0, .int 0], vm := .none },
  { cls := 6, slots := #[.null, .int 1, .int 0], vm := .none }]
def classes : Array Class := #[k0, k1, k2, k3, k4, k5, k6, k7, k8, k9, k10, k11, k12]
def interned : List (Array UInt16 × Addr) := []
def slotsUsed : Nat := 9
def theMethod : MethodId := ⟨1, 1⟩
def args0 : Array Value := #[.long 5, .long 9, .int 7]
def aboutOver (below : List Frame) : State where
  vm := { classes := classes, interned := interned.toArray }
  heap := heap
  slotsUsed := slotsUsed
  threads := #[{ frames := .invoking theMethod args0 :: below }]
def below0 : List Frame := [.native { method := ⟨0, 0⟩, args := #[] }]
def about1 : State := aboutOver below0
def p0 : Program := .bare "" "" ""
def e0 : Env := launch0.env 0 0 0
theorem w_frames : about1.frames = Frame.invoking theMethod args0 :: below0 := rfl
set_option maxRecDepth 65536 in
theorem w_args : argsFit about1.vm theMethod args0 = true := by decide +kernel
set_option maxRecDepth 65536 in
theorem w_heap : heapFits about1 = true := by decide +kernel
set_option maxRecDepth 65536 in
theorem w_runnable : about1.curStatus? = some .runnable := by decide +kernel
set_option maxRecDepth 65536 in
theorem w_alone : about1.alone = true := by decide +kernel
set_option maxRecDepth 65536 in
theorem w_named : about1.methodNamed? x = some theMethod := by decide +kernel
set_option maxRecDepth 65536 in
theorem w_hears : about1.hears theMethod below0 = true := by decide +kernel
set_option maxRecDepth 65536 in
theorem w_ripe : about1.ripe theMethod args0 below0 = true := by decide +kernel
theorem w_running : about1.status = .running := rfl
set_option maxRecDepth 65536 in
theorem w_room : about1.hasRoom e0.platform room_1 = true :=
  launch0.hasRoom_least _ room_1 (by decide +kernel) (by decide +kernel) (by decide +kernel) (by decide +kernel) (by decide +kernel) (by decide +kernel)
theorem allAtoms_all (ts : List Jvm.Cond) (a : Array Jvm.Value) (st : Jvm.State) : (allAtoms ts).before a st = ts.all (fun c => c.before a st) := by
  induction ts with
  | nil => rfl
  | cons c t ih =>
    show (Jvm.Cond.and c (allAtoms t)).before a st = _
    rw [Jvm.Cond.before_and, ih, List.all_cons]
def words1 : List Jvm.Cond := Jvm.Cond.code x code maxLocals ret :: tables_1
/-- a 'code' word, met by the world's own term for the bytes: nothing is compared byte by byte -/
theorem code_word {y : MethodName} {bytes : ByteArray} {mx : Nat} {rt : Option FieldType} {a : Array Value} {s : State} {m : MethodId} {meth : Method} {c : Code} (h1 : s.methodNamed? y = some m) (h2 : s.vm.method? m = some meth) (h3 : meth.code = some c) (h4 : c.code = bytes)
    (h5 : (c.maxLocals == mx && c.exceptionTable.isEmpty && decide (c.maxStack ≤ mostOperands) && decide (meth.sig.returnType = rt) && !meth.locks && decide (parseMethodDescriptor y.desc = some meth.sig)) = true) : (Jvm.Cond.code y bytes mx rt).before a s = true := by
  simp only [Bool.and_eq_true, beq_iff_eq, Bool.not_eq_true', decide_eq_true_eq] at h5
  obtain ⟨⟨⟨⟨⟨g1, g2⟩, g3⟩, g4⟩, g5⟩, g6⟩ := h5
  simp [Cond.before, Cond.holds, Cond.value, h1, h2, h3, h4, g1, g2, g3, g4, g5, g6]
def isCode : Jvm.Cond → Bool
  | .code _ _ _ _ => true
  | _ => false
theorem all_split {L : List Jvm.Cond} {P : Jvm.Cond → Bool} (h1 : L.all (fun c => isCode c || P c) = true) (h2 : ∀ c ∈ L.filter isCode, P c = true) : L.all P = true := by
  refine List.all_eq_true.mpr fun c hc => ?_
  have h := List.all_eq_true.mp h1 c hc
  rcases Bool.eq_false_or_eq_true (isCode c) with hi | hi
  · exact h2 c (List.mem_filter.mpr ⟨hc, hi⟩)
  · simpa [hi] using h
set_option maxRecDepth 65536 in
theorem w_c0 : (Jvm.Cond.code x code maxLocals ret).before args0 about1 = true := code_word (m := ⟨1, 1⟩) (meth := k1m1) (c := k1c1) (by decide +kernel) rfl rfl rfl (by decide +kernel)
set_option maxRecDepth 65536 in
theorem w_c1 : (Jvm.Cond.code ({ cls := "com/example/tidebook/tidebook/book/Side", name := "isMoreAggressive", desc := "(JJ)Z" } : Jvm.MethodName) prog_12_method_9_code (5 : Nat) (Option.some Jvm.ClassFile.FieldType.boolean)).before args0 about1 = true := code_word (m := ⟨6, 2⟩) (meth := k6m2) (c := k6c2) (by decide +kernel) rfl rfl rfl (by decide +kernel)
set_option maxRecDepth 65536 in
theorem w_c2 : (Jvm.Cond.code ({ cls := "com/example/tidebook/tidebook/book/Side", name := "opposite", desc := "()Lcom/example/tidebook/tidebook/book/Side;" } : Jvm.MethodName) prog_12_method_4_code (1 : Nat) (Option.some (Jvm.ClassFile.FieldType.object "com/example/tidebook/tidebook/book/Side"))).before args0 about1 = true := code_word (m := ⟨6, 0⟩) (meth := k6m0) (c := k6c0) (by decide +kernel) rfl rfl rfl (by decide +kernel)
set_option maxRecDepth 65536 in
theorem w_c3 : (Jvm.Cond.code ({ cls := "com/example/tidebook/tidebook/book/Side", name := "lessAggressive", desc := "(JJ)J" } : Jvm.MethodName) prog_12_method_8_code (5 : Nat) (Option.some Jvm.ClassFile.FieldType.long)).before args0 about1 = true := code_word (m := ⟨6, 1⟩) (meth := k6m1) (c := k6c1) (by decide +kernel) rfl rfl rfl (by decide +kernel)
set_option maxRecDepth 65536 in
theorem w_c4 : (Jvm.Cond.code ({ cls := "java/lang/Math", name := "min", desc := "(JJ)J" } : Jvm.MethodName) jdk_29_method_70_code (4 : Nat) (Option.some Jvm.ClassFile.FieldType.long)).before args0 about1 = true := code_word (m := ⟨7, 2⟩) (meth := k7m2) (c := k7c2) (by decide +kernel) rfl rfl rfl (by decide +kernel)
set_option maxRecDepth 65536 in
theorem w_c5 : (Jvm.Cond.code ({ cls := "java/lang/Math", name := "max", desc := "(JJ)J" } : Jvm.MethodName) jdk_29_method_66_code (4 : Nat) (Option.some Jvm.ClassFile.FieldType.long)).before args0 about1 = true := code_word (m := ⟨7, 1⟩) (meth := k7m1) (c := k7c1) (by decide +kernel) rfl rfl rfl (by decide +kernel)
def codes1 : List Jvm.Cond := [Jvm.Cond.code x code maxLocals ret, Jvm.Cond.code ({ cls := "com/example/tidebook/tidebook/book/Side", name := "isMoreAggressive", desc := "(JJ)Z" } : Jvm.MethodName) prog_12_method_9_code (5 : Nat) (Option.some Jvm.ClassFile.FieldType.boolean), Jvm.Cond.code ({ cls := "com/example/tidebook/tidebook/book/Side", name := "opposite", desc := "()Lcom/example/tidebook/tidebook/book/Side;" } : Jvm.MethodName) prog_12_method_4_code (1 : Nat) (Option.some (Jvm.ClassFile.FieldType.object "com/example/tidebook/tidebook/book/Side")), Jvm.Cond.code ({ cls := "com/example/tidebook/tidebook/book/Side", name := "lessAggressive", desc := "(JJ)J" } : Jvm.MethodName) prog_12_method_8_code (5 : Nat) (Option.some Jvm.ClassFile.FieldType.long), Jvm.Cond.code ({ cls := "java/lang/Math", name := "min", desc := "(JJ)J" } : Jvm.MethodName) jdk_29_method_70_code (4 : Nat) (Option.some Jvm.ClassFile.FieldType.long), Jvm.Cond.code ({ cls := "java/lang/Math", name := "max", desc := "(JJ)J" } : Jvm.MethodName) jdk_29_method_66_code (4 : Nat) (Option.some Jvm.ClassFile.FieldType.long)]
set_option maxRecDepth 65536 in
theorem codes_eq : words1.filter isCode = codes1 := rfl
theorem w_codes : ∀ c ∈ words1.filter isCode, c.before args0 about1 = true := by
  rw [codes_eq]
  intro c hc
  simp only [codes1, List.mem_cons, List.not_mem_nil, or_false] at hc
  rcases hc with rfl | rfl | rfl | rfl | rfl | rfl
  · exact w_c0
  · exact w_c1
  · exact w_c2
  · exact w_c3
  · exact w_c4
  · exact w_c5
set_option maxRecDepth 65536 in
theorem w_t1 : (words1.take 24).all (fun c => isCode c || c.before args0 about1) = true := by decide +kernel
set_option maxRecDepth 65536 in
theorem w_t2 : (words1.drop 24).all (fun c => isCode c || c.before args0 about1) = true := by decide +kernel
theorem w_tables : (allAtoms (Jvm.Cond.code x code maxLocals ret :: tables_1)).before args0 about1 = true := by
  rw [allAtoms_all]
  show words1.all (fun c => c.before args0 about1) = true
  refine all_split ?_ w_codes
  rw [← List.take_append_drop 24 words1, List.all_append, w_t1, w_t2]
  rfl
set_option maxRecDepth 65536 in
theorem w_case : (Jvm.Cond.and given_1 narrow_1).before args0 about1 = true := by decide +kernel
theorem w_applies : (headSpec (Jvm.Cond.code x code maxLocals ret :: tables_1) room_1).applies x e0.platform about1 = true :=
  (Spec.applies_iff w_frames).mpr ⟨w_running, w_runnable, w_alone, w_named, w_hears, w_ripe, w_room, w_tables⟩
theorem atStart : AtStart classFile x code maxLocals ret World_1 tables_1 room_1 Calls_1 rest_1 Pre_1 launch0 p0 e0 about1 theMethod args0 below0 :=
  ⟨lists_1, trivial, launch0.admits_env _ _ _, launch0.least_env, fairChoices_fair.cas, fairChoices_fair.clock, w_frames, w_args, w_heap, w_applies, trivial, trivial, w_case⟩
end start1
theorem witness_1 : WitnessClaimed_1 := ⟨start1.p0, start1.e0, start1.about1, start1.theMethod, start1.args0, start1.below0, start1.atStart⟩
end Jvm.Pilot.@@N@@

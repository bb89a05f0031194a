import JvmDerived
import JvmDerived.Pilot.@@N@@Statement
import JvmDerived.Pilot.@@N@@Code
set_option linter.unusedVariables false
set_option linter.unusedSimpArgs false
@@BLOCK:NumsL.lean.txt@@
namespace Jvm.RoadKit
open Sem ClassFile Op Lib Jvm.Stand Jvm.Free Jvm.LawKit
section New
variable {p : Program} {l : Launch} {e : Env} {R : Room} {s : State} {m : MethodId} {args : Array Value} {below : List Frame} {meth : Method} {c : Code} {T : State} {locs : List Loc} {cells slots : Nat}
theorem retI (X : Stand p l e R s m args below meth c T locs cells slots) (hx : p.tables.exec = Jvm.exec) {pc : Nat} {Ls : Array Slot} {z : Int32} {rest : List Value} (hret : meth.sig.returnType = some .int) (hd : decode c.code pc = .ok (.ireturn, 1)) {fs : List Frame}
    (hl : ∀ (f : JFrame) (acts : List Action), f.method = m → f.locked = none → f.entered = [] → (doReturn e (T.setTop f) acts (some (.int z))).1 = T.setFrames fs) : Steps p.tables e below (T.setTop (mkF m pc Ls (.int z :: rest))) (T.setFrames fs) := by
  have hm' : T.vm.method? m = some meth := X.method'
  have hn : narrow .int (.int z) = .int z := rfl
  show Steps p.tables e below (T.setTop { method := m, pc := pc, locals := Ls, stack := _ :: rest, locked := none }) _
  jvm_step X.here [X.here.top, hx, hd, hm', hret, hn]
  first | (intro acts; rw [hl _ acts rfl rfl rfl]) | rw [hl _ _ rfl rfl rfl]
  exact Steps.refl _
end New
end Jvm.RoadKit
namespace Jvm.Pilot.@@N@@
open Jvm Jvm.ClassFile Sem Op Lib Jvm.Free Jvm.Stand Jvm.LawKit Jvm.RoadKit Bundle Jvm.Pilot.@@N@@.Jvm.D
theorem d1_0 : decode method_2_code 0 = .ok (.iload_n 2, 1) := by decide +kernel
theorem d1_1 : decode method_2_code 1 = .ok (.iconst 3, 1) := by decide +kernel
theorem d1_2 : decode method_2_code 2 = .ok (.iand, 1) := by decide +kernel
theorem d1_3 : decode method_2_code 3 = .ok (.istore_n 3, 1) := by decide +kernel
theorem d1_4 : decode method_2_code 4 = .ok (.iload_n 3, 1) := by decide +kernel
theorem d1_5 : decode method_2_code 5 = .ok (.ifCond .ne 5, 3) := by decide +kernel
theorem d1_8 : decode method_2_code 8 = .ok (.lload_n 0, 1) := by decide +kernel
theorem d1_9 : decode method_2_code 9 = .ok (.lreturn, 1) := by decide +kernel
theorem d1_10 : decode method_2_code 10 = .ok (.iload_n 3, 1) := by decide +kernel
theorem d1_11 : decode method_2_code 11 = .ok (.iconst 1, 1) := by decide +kernel
theorem d1_12 : decode method_2_code 12 = .ok (.if_icmp .ne 13, 3) := by decide +kernel
theorem d1_15 : decode method_2_code 15 = .ok (.ldc2_w 7, 3) := by decide +kernel
theorem d1_18 : decode method_2_code 18 = .ok (.lload_n 0, 1) := by decide +kernel
theorem d1_19 : decode method_2_code 19 = .ok (.ldc2_w 9, 3) := by decide +kernel
theorem d1_22 : decode method_2_code 22 = .ok (.lrem, 1) := by decide +kernel
theorem d1_23 : decode method_2_code 23 = .ok (.ladd, 1) := by decide +kernel
theorem d1_24 : decode method_2_code 24 = .ok (.lreturn, 1) := by decide +kernel
theorem d1_25 : decode method_2_code 25 = .ok (.iload_n 3, 1) := by decide +kernel
theorem d1_26 : decode method_2_code 26 = .ok (.iconst 2, 1) := by decide +kernel
theorem d1_27 : decode method_2_code 27 = .ok (.if_icmp .ne 9, 3) := by decide +kernel
theorem d1_30 : decode method_2_code 30 = .ok (.lload_n 0, 1) := by decide +kernel
theorem d1_31 : decode method_2_code 31 = .ok (.ldc2_w 11, 3) := by decide +kernel
theorem d1_34 : decode method_2_code 34 = .ok (.lrem, 1) := by decide +kernel
theorem d1_35 : decode method_2_code 35 = .ok (.lreturn, 1) := by decide +kernel
theorem d1_36 : decode method_2_code 36 = .ok (.ldc2_w 15, 3) := by decide +kernel
theorem d1_39 : decode method_2_code 39 = .ok (.lload_n 0, 1) := by decide +kernel
theorem d1_40 : decode method_2_code 40 = .ok (.ldc2_w 17, 3) := by decide +kernel
theorem d1_43 : decode method_2_code 43 = .ok (.land, 1) := by decide +kernel
theorem d1_44 : decode method_2_code 44 = .ok (.lsub, 1) := by decide +kernel
theorem d1_45 : decode method_2_code 45 = .ok (.lreturn, 1) := by decide +kernel
theorem pn_1 : plainName "com/example/tidebook/tidebook/book/PriceBelowPinLaw" = true := by first | (simp [plainName, overriddenIn]; done) | decide +kernel
theorem pd_0 : parseMethodDescriptor "(JI)J" = some ⟨[.long, .int], some .long⟩ := by decide +kernel
theorem pd_1 : parseMethodDescriptor "(J)J" = some ⟨[.long], some .long⟩ := by decide +kernel
theorem ef_1 (m : MethodId) (x0 : Int64) (x1 : Int32) : entryFrame m #[(.long x0), (.int x1)] 4 = mkF m 0 #[.val (.long x0), .second, .val (.int x1), .unset] [] := by first | (simp [entryFrame, mkF, argsToLocals, Value.category]; done) | rfl
def f1 (q0 : Int64) (p1 : Int32) : Int64 := if (p1 &&& (3 : Int32)) = (0 : Int32) then q0 else if (p1 &&& (3 : Int32)) = (1 : Int32) then ((10000 : Int64) + (q0 - (q0 / (200 : Int64)) * (200 : Int64))) else if (p1 &&& (3 : Int32)) = (2 : Int32) then (q0 - (q0 / (4 : Int64)) * (4 : Int64)) else ((9223372036854775807 : Int64) - (q0 &&& (255 : Int64)))
def Q1 (q0 : Int64) (p1 : Int32) (h0 : Heap) (n0 : Nat) (v : Option Value) (h : Heap) (L : List Loc) : Prop := v = some (.long (f1 q0 p1)) ∧ Fr n0 L ∧ h = h0
set_option maxRecDepth 65536 in
set_option maxHeartbeats 40000000 in
theorem rm1 (l : Launch) (Z : State) (a0 : Array Value) (hw : ∀ d ∈ tables_1, d.before a0 Z = true) (ws : List Jvm.Cond) (q0 : Int64) (p1 : Int32)  (h0 : Heap) (n0 : Nat) (Z0 : n0 ≤ h0.size)  :
    MetFree l (⟨"com/example/tidebook/tidebook/book/PriceBelowPinLaw", "pick", "(JI)J"⟩ : MethodName) (head1 (Jvm.Cond.code (⟨"com/example/tidebook/tidebook/book/PriceBelowPinLaw", "pick", "(JI)J"⟩ : MethodName) method_2_code 4 (some .long) :: ws) ({ frames := 0, cells := 0, slots := 0, locals := 0 } : Room)) (fun a U => a = #[(.long q0), (.int p1)] ∧ Z.Warmed39 U.vm ∧ U.heap = h0) (fun _ _ _ _ _ => True) (fun _ U o U' => ∃ v L, o = .returned v ∧ Q1 q0 p1 h0 n0 v U'.heap L ∧ FrameEnd U o U' L ({ frames := 0, cells := 0, slots := 0, locals := 0 } : Room).cells ({ frames := 0, cells := 0, slots := 0, locals := 0 } : Room).slots) := by
  refine MetFree.of_bodySF (plainFor_of_name pn_1) hisR ?_
  intro p e s m args below meth c s₁ Bd hml0 hP hK
  obtain ⟨rfl, hZ, hh⟩ := hP
  have hx := Bd.exec
  have hby := Bd.bytes
  have hml : c.maxLocals = 4 := hml0
  have hown : s.vm.findClass "com/example/tidebook/tidebook/book/PriceBelowPinLaw" = some m.cls := findClass_of_methodNamed Bd.named
  have hnm := (name_of_methodNamed Bd.named Bd.method).1
  have X0 : Stand p l e ({ frames := 0, cells := 0, slots := 0, locals := 0 } : Room) s m #[(.long q0), (.int p1)] below meth c s₁ [] 0 0 := Stand.of_body Bd
  have e0 : s₁.heap = h0 := by rw [← hh, Bd.state]; rfl
  have N0 := Fr.nil n0
  have pre0 : ∀ t, Steps p.tables e below (s₁.setTop (mkF m 0 #[.val (.long q0), .second, .val (.int p1), .unset] [])) t → Steps p.tables e below (s₁.setTop (entryFrame m #[(.long q0), (.int p1)] 4)) t := fun t k => castTop (ef_1 m q0 p1) k
  obtain ⟨fs, hr, hrun, hended, hW, hsame⟩ := X0.leave (v := some (.long (f1 q0 p1))) (fun h => by rw [Bd.returns] at h; cases h)
  refine ⟨_, _, pre0 _ ?_, hrun, hended, _, _, rfl, ?_, ⟨_, rfl⟩, hW, hsame.mono (by decide) (by decide)⟩
  · show Steps p.tables e below (s₁.setTop (mkF m 0 #[.val (.long q0), .second, .val (.int p1), .unset] [])) _
    refine XS.iloadN X0.here hx rfl (hb hby d1_0) rfl ?_
    show Steps p.tables e below (s₁.setTop (mkF m 1 #[.val (.long q0), .second, .val (.int p1), .unset] [(.int p1)])) _
    refine XS.iconst X0.here hx rfl (hb hby d1_1) ?_
    show Steps p.tables e below (s₁.setTop (mkF m 2 #[.val (.long q0), .second, .val (.int p1), .unset] [(.int (3 : Int32)), (.int p1)])) _
    refine XS.iand X0.here hx rfl (hb hby d1_2) rfl ?_
    show Steps p.tables e below (s₁.setTop (mkF m 3 #[.val (.long q0), .second, .val (.int p1), .unset] [(.int (p1 &&& (3 : Int32)))])) _
    refine XS.istoreN X0.here hx rfl (hb hby d1_3) rfl (l' := #[.val (.long q0), .second, .val (.int p1), .val (.int (p1 &&& (3 : Int32)))]) rfl ?_
    show Steps p.tables e below (s₁.setTop (mkF m 4 #[.val (.long q0), .second, .val (.int p1), .val (.int (p1 &&& (3 : Int32)))] [])) _
    refine XS.iloadN X0.here hx rfl (hb hby d1_4) rfl ?_
    show Steps p.tables e below (s₁.setTop (mkF m 5 #[.val (.long q0), .second, .val (.int p1), .val (.int (p1 &&& (3 : Int32)))] [(.int (p1 &&& (3 : Int32)))])) _
    by_cases c4 : (p1 &&& (3 : Int32)) = (0 : Int32)
    · refine XS.ifNo X0.here hx rfl (hb hby d1_5) rfl ((if0 _ _).trans (teq c4).2) ?_
      show Steps p.tables e below (s₁.setTop (mkF m 8 #[.val (.long q0), .second, .val (.int p1), .val (.int (p1 &&& (3 : Int32)))] [])) _
      refine XS.lloadN X0.here hx rfl (hb hby d1_8) rfl ?_
      show Steps p.tables e below (s₁.setTop (mkF m 9 #[.val (.long q0), .second, .val (.int p1), .val (.int (p1 &&& (3 : Int32)))] [(.long q0)])) _
      have hv : f1 q0 p1 = q0 := by unfold f1; rw [if_pos c4]
      rw [hv] at hr
      exact Jvm.Stand.lreturnOut X0 hx Bd.returns (hb hby d1_9) hr
    · refine XS.ifYes X0.here hx rfl (pc0 := 5) (pc' := 10) rfl (hb hby d1_5) rfl ((if0 _ _).trans (feq c4).2) (by decide) (by decide) ?_
      show Steps p.tables e below (s₁.setTop (mkF m 10 #[.val (.long q0), .second, .val (.int p1), .val (.int (p1 &&& (3 : Int32)))] [])) _
      refine XS.iloadN X0.here hx rfl (hb hby d1_10) rfl ?_
      show Steps p.tables e below (s₁.setTop (mkF m 11 #[.val (.long q0), .second, .val (.int p1), .val (.int (p1 &&& (3 : Int32)))] [(.int (p1 &&& (3 : Int32)))])) _
      refine XS.iconst X0.here hx rfl (hb hby d1_11) ?_
      show Steps p.tables e below (s₁.setTop (mkF m 12 #[.val (.long q0), .second, .val (.int p1), .val (.int (p1 &&& (3 : Int32)))] [(.int (1 : Int32)), (.int (p1 &&& (3 : Int32)))])) _
      by_cases c5 : (p1 &&& (3 : Int32)) = (1 : Int32)
      · refine XS.icmpNo X0.here hx rfl (hb hby d1_12) rfl (teq c5).2 ?_
        show Steps p.tables e below (s₁.setTop (mkF m 15 #[.val (.long q0), .second, .val (.int p1), .val (.int (p1 &&& (3 : Int32)))] [])) _
        refine X0.ldc2Long hx hown (mvT hZ (hw _ (List.mem_of_getElem? (i := 10) rfl))) (g := (mkF m 15 #[.val (.long q0), .second, .val (.int p1), .val (.int (p1 &&& (3 : Int32)))] [])) rfl (hb hby d1_15) _ ?_
        show Steps p.tables e below (s₁.setTop (mkF m 18 #[.val (.long q0), .second, .val (.int p1), .val (.int (p1 &&& (3 : Int32)))] [(.long (10000 : Int64))])) _
        refine XS.lloadN X0.here hx rfl (hb hby d1_18) rfl ?_
        show Steps p.tables e below (s₁.setTop (mkF m 19 #[.val (.long q0), .second, .val (.int p1), .val (.int (p1 &&& (3 : Int32)))] [(.long q0), (.long (10000 : Int64))])) _
        refine X0.ldc2Long hx hown (mvT hZ (hw _ (List.mem_of_getElem? (i := 15) rfl))) (g := (mkF m 19 #[.val (.long q0), .second, .val (.int p1), .val (.int (p1 &&& (3 : Int32)))] [(.long q0), (.long (10000 : Int64))])) rfl (hb hby d1_19) _ ?_
        show Steps p.tables e below (s₁.setTop (mkF m 22 #[.val (.long q0), .second, .val (.int p1), .val (.int (p1 &&& (3 : Int32)))] [(.long (200 : Int64)), (.long q0), (.long (10000 : Int64))])) _
        refine XS.lrem X0.here hx rfl (hb hby d1_22) rfl (by decide) ?_
        show Steps p.tables e below (s₁.setTop (mkF m 23 #[.val (.long q0), .second, .val (.int p1), .val (.int (p1 &&& (3 : Int32)))] [(.long (q0 - (q0 / (200 : Int64)) * (200 : Int64))), (.long (10000 : Int64))])) _
        refine XS.ladd X0.here hx rfl (hb hby d1_23) rfl ?_
        show Steps p.tables e below (s₁.setTop (mkF m 24 #[.val (.long q0), .second, .val (.int p1), .val (.int (p1 &&& (3 : Int32)))] [(.long ((10000 : Int64) + (q0 - (q0 / (200 : Int64)) * (200 : Int64))))])) _
        have hv : f1 q0 p1 = ((10000 : Int64) + (q0 - (q0 / (200 : Int64)) * (200 : Int64))) := by unfold f1; rw [if_neg c4, if_pos c5]
        rw [hv] at hr
        exact Jvm.Stand.lreturnOut X0 hx Bd.returns (hb hby d1_24) hr
      · refine XS.icmpYes X0.here hx rfl (pc0 := 12) (pc' := 25) rfl (hb hby d1_12) rfl (feq c5).2 (by decide) (by decide) ?_
        show Steps p.tables e below (s₁.setTop (mkF m 25 #[.val (.long q0), .second, .val (.int p1), .val (.int (p1 &&& (3 : Int32)))] [])) _
        refine XS.iloadN X0.here hx rfl (hb hby d1_25) rfl ?_
        show Steps p.tables e below (s₁.setTop (mkF m 26 #[.val (.long q0), .second, .val (.int p1), .val (.int (p1 &&& (3 : Int32)))] [(.int (p1 &&& (3 : Int32)))])) _
        refine XS.iconst X0.here hx rfl (hb hby d1_26) ?_
        show Steps p.tables e below (s₁.setTop (mkF m 27 #[.val (.long q0), .second, .val (.int p1), .val (.int (p1 &&& (3 : Int32)))] [(.int (2 : Int32)), (.int (p1 &&& (3 : Int32)))])) _
        by_cases c6 : (p1 &&& (3 : Int32)) = (2 : Int32)
        · refine XS.icmpNo X0.here hx rfl (hb hby d1_27) rfl (teq c6).2 ?_
          show Steps p.tables e below (s₁.setTop (mkF m 30 #[.val (.long q0), .second, .val (.int p1), .val (.int (p1 &&& (3 : Int32)))] [])) _
          refine XS.lloadN X0.here hx rfl (hb hby d1_30) rfl ?_
          show Steps p.tables e below (s₁.setTop (mkF m 31 #[.val (.long q0), .second, .val (.int p1), .val (.int (p1 &&& (3 : Int32)))] [(.long q0)])) _
          refine X0.ldc2Long hx hown (mvT hZ (hw _ (List.mem_of_getElem? (i := 4) rfl))) (g := (mkF m 31 #[.val (.long q0), .second, .val (.int p1), .val (.int (p1 &&& (3 : Int32)))] [(.long q0)])) rfl (hb hby d1_31) _ ?_
          show Steps p.tables e below (s₁.setTop (mkF m 34 #[.val (.long q0), .second, .val (.int p1), .val (.int (p1 &&& (3 : Int32)))] [(.long (4 : Int64)), (.long q0)])) _
          refine XS.lrem X0.here hx rfl (hb hby d1_34) rfl (by decide) ?_
          show Steps p.tables e below (s₁.setTop (mkF m 35 #[.val (.long q0), .second, .val (.int p1), .val (.int (p1 &&& (3 : Int32)))] [(.long (q0 - (q0 / (4 : Int64)) * (4 : Int64)))])) _
          have hv : f1 q0 p1 = (q0 - (q0 / (4 : Int64)) * (4 : Int64)) := by unfold f1; rw [if_neg c4, if_neg c5, if_pos c6]
          rw [hv] at hr
          exact Jvm.Stand.lreturnOut X0 hx Bd.returns (hb hby d1_35) hr
        · refine XS.icmpYes X0.here hx rfl (pc0 := 27) (pc' := 36) rfl (hb hby d1_27) rfl (feq c6).2 (by decide) (by decide) ?_
          show Steps p.tables e below (s₁.setTop (mkF m 36 #[.val (.long q0), .second, .val (.int p1), .val (.int (p1 &&& (3 : Int32)))] [])) _
          refine X0.ldc2Long hx hown (mvT hZ (hw _ (List.mem_of_getElem? (i := 11) rfl))) (g := (mkF m 36 #[.val (.long q0), .second, .val (.int p1), .val (.int (p1 &&& (3 : Int32)))] [])) rfl (hb hby d1_36) _ ?_
          show Steps p.tables e below (s₁.setTop (mkF m 39 #[.val (.long q0), .second, .val (.int p1), .val (.int (p1 &&& (3 : Int32)))] [(.long (9223372036854775807 : Int64))])) _
          refine XS.lloadN X0.here hx rfl (hb hby d1_39) rfl ?_
          show Steps p.tables e below (s₁.setTop (mkF m 40 #[.val (.long q0), .second, .val (.int p1), .val (.int (p1 &&& (3 : Int32)))] [(.long q0), (.long (9223372036854775807 : Int64))])) _
          refine X0.ldc2Long hx hown (mvT hZ (hw _ (List.mem_of_getElem? (i := 12) rfl))) (g := (mkF m 40 #[.val (.long q0), .second, .val (.int p1), .val (.int (p1 &&& (3 : Int32)))] [(.long q0), (.long (9223372036854775807 : Int64))])) rfl (hb hby d1_40) _ ?_
          show Steps p.tables e below (s₁.setTop (mkF m 43 #[.val (.long q0), .second, .val (.int p1), .val (.int (p1 &&& (3 : Int32)))] [(.long (255 : Int64)), (.long q0), (.long (9223372036854775807 : Int64))])) _
          refine XS.land X0.here hx rfl (hb hby d1_43) rfl ?_
          show Steps p.tables e below (s₁.setTop (mkF m 44 #[.val (.long q0), .second, .val (.int p1), .val (.int (p1 &&& (3 : Int32)))] [(.long (q0 &&& (255 : Int64))), (.long (9223372036854775807 : Int64))])) _
          refine XS.lsub X0.here hx rfl (hb hby d1_44) rfl ?_
          show Steps p.tables e below (s₁.setTop (mkF m 45 #[.val (.long q0), .second, .val (.int p1), .val (.int (p1 &&& (3 : Int32)))] [(.long ((9223372036854775807 : Int64) - (q0 &&& (255 : Int64))))])) _
          have hv : f1 q0 p1 = ((9223372036854775807 : Int64) - (q0 &&& (255 : Int64))) := by unfold f1; rw [if_neg c4, if_neg c5, if_neg c6]
          rw [hv] at hr
          exact Jvm.Stand.lreturnOut X0 hx Bd.returns (hb hby d1_45) hr
  · show Q1 q0 p1 h0 n0 _ s₁.heap _
    rw [e0]
    exact ⟨rfl, N0, rfl⟩
theorem d2_0 : decode prog_9_method_4_code 0 = .ok (.lload_n 0, 1) := by decide +kernel
theorem d2_1 : decode prog_9_method_4_code 1 = .ok (.ldc2_w 66, 3) := by decide +kernel
theorem d2_4 : decode prog_9_method_4_code 4 = .ok (.lcmp, 1) := by decide +kernel
theorem d2_5 : decode prog_9_method_4_code 5 = .ok (.ifCond .le 15, 3) := by decide +kernel
theorem d2_8 : decode prog_9_method_4_code 8 = .ok (.lload_n 0, 1) := by decide +kernel
theorem d2_9 : decode prog_9_method_4_code 9 = .ok (.lconst 1, 1) := by decide +kernel
theorem d2_10 : decode prog_9_method_4_code 10 = .ok (.lsub, 1) := by decide +kernel
theorem d2_11 : decode prog_9_method_4_code 11 = .ok (.ldc2_w 68, 3) := by decide +kernel
theorem d2_14 : decode prog_9_method_4_code 14 = .ok (.ldiv, 1) := by decide +kernel
theorem d2_15 : decode prog_9_method_4_code 15 = .ok (.ldc2_w 68, 3) := by decide +kernel
theorem d2_18 : decode prog_9_method_4_code 18 = .ok (.lmul, 1) := by decide +kernel
theorem d2_19 : decode prog_9_method_4_code 19 = .ok (.lreturn, 1) := by decide +kernel
theorem d2_20 : decode prog_9_method_4_code 20 = .ok (.lload_n 0, 1) := by decide +kernel
theorem d2_21 : decode prog_9_method_4_code 21 = .ok (.lconst 1, 1) := by decide +kernel
theorem d2_22 : decode prog_9_method_4_code 22 = .ok (.lcmp, 1) := by decide +kernel
theorem d2_23 : decode prog_9_method_4_code 23 = .ok (.ifCond .le 9, 3) := by decide +kernel
theorem d2_26 : decode prog_9_method_4_code 26 = .ok (.lload_n 0, 1) := by decide +kernel
theorem d2_27 : decode prog_9_method_4_code 27 = .ok (.lconst 1, 1) := by decide +kernel
theorem d2_28 : decode prog_9_method_4_code 28 = .ok (.lsub, 1) := by decide +kernel
theorem d2_29 : decode prog_9_method_4_code 29 = .ok (.goto 4, 3) := by decide +kernel
theorem d2_32 : decode prog_9_method_4_code 32 = .ok (.lconst 0, 1) := by decide +kernel
theorem d2_33 : decode prog_9_method_4_code 33 = .ok (.lreturn, 1) := by decide +kernel
theorem pn_2 : plainName "com/example/tidebook/tidebook/book/Price" = true := by first | (simp [plainName, overriddenIn]; done) | decide +kernel
theorem ef_2 (m : MethodId) (x0 : Int64) : entryFrame m #[(.long x0)] 2 = mkF m 0 #[.val (.long x0), .second] [] := by first | (simp [entryFrame, mkF, argsToLocals, Value.category]; done) | rfl
def f2 (q0 : Int64) : Int64 := if (10000 : Int64) < q0 then (((q0 - (1 : Int64)) / (100 : Int64)) * (100 : Int64)) else if (1 : Int64) < q0 then (q0 - (1 : Int64)) else (0 : Int64)
def Q2 (q0 : Int64) (h0 : Heap) (n0 : Nat) (v : Option Value) (h : Heap) (L : List Loc) : Prop := v = some (.long (f2 q0)) ∧ Fr n0 L ∧ h = h0
set_option maxRecDepth 65536 in
set_option maxHeartbeats 40000000 in
theorem rm2 (l : Launch) (Z : State) (a0 : Array Value) (hw : ∀ d ∈ tables_1, d.before a0 Z = true) (ws : List Jvm.Cond) (q0 : Int64)  (h0 : Heap) (n0 : Nat) (Z0 : n0 ≤ h0.size)  :
    MetFree l (⟨"com/example/tidebook/tidebook/book/Price", "below", "(J)J"⟩ : MethodName) (head1 (Jvm.Cond.code (⟨"com/example/tidebook/tidebook/book/Price", "below", "(J)J"⟩ : MethodName) prog_9_method_4_code 2 (some .long) :: ws) ({ frames := 0, cells := 0, slots := 0, locals := 0 } : Room)) (fun a U => a = #[(.long q0)] ∧ Z.Warmed39 U.vm ∧ U.heap = h0) (fun _ _ _ _ _ => True) (fun _ U o U' => ∃ v L, o = .returned v ∧ Q2 q0 h0 n0 v U'.heap L ∧ FrameEnd U o U' L ({ frames := 0, cells := 0, slots := 0, locals := 0 } : Room).cells ({ frames := 0, cells := 0, slots := 0, locals := 0 } : Room).slots) := by
  refine MetFree.of_bodySF (plainFor_of_name pn_2) hisR ?_
  intro p e s m args below meth c s₁ Bd hml0 hP hK
  obtain ⟨rfl, hZ, hh⟩ := hP
  have hx := Bd.exec
  have hby := Bd.bytes
  have hml : c.maxLocals = 2 := hml0
  have hown : s.vm.findClass "com/example/tidebook/tidebook/book/Price" = some m.cls := findClass_of_methodNamed Bd.named
  have hnm := (name_of_methodNamed Bd.named Bd.method).1
  have X0 : Stand p l e ({ frames := 0, cells := 0, slots := 0, locals := 0 } : Room) s m #[(.long q0)] below meth c s₁ [] 0 0 := Stand.of_body Bd
  have e0 : s₁.heap = h0 := by rw [← hh, Bd.state]; rfl
  have N0 := Fr.nil n0
  have pre0 : ∀ t, Steps p.tables e below (s₁.setTop (mkF m 0 #[.val (.long q0), .second] [])) t → Steps p.tables e below (s₁.setTop (entryFrame m #[(.long q0)] 2)) t := fun t k => castTop (ef_2 m q0) k
  obtain ⟨fs, hr, hrun, hended, hW, hsame⟩ := X0.leave (v := some (.long (f2 q0))) (fun h => by rw [Bd.returns] at h; cases h)
  refine ⟨_, _, pre0 _ ?_, hrun, hended, _, _, rfl, ?_, ⟨_, rfl⟩, hW, hsame.mono (by decide) (by decide)⟩
  · show Steps p.tables e below (s₁.setTop (mkF m 0 #[.val (.long q0), .second] [])) _
    refine XS.lloadN X0.here hx rfl (hb hby d2_0) rfl ?_
    show Steps p.tables e below (s₁.setTop (mkF m 1 #[.val (.long q0), .second] [(.long q0)])) _
    refine X0.ldc2Long hx hown (mvT hZ (hw _ (List.mem_of_getElem? (i := 9) rfl))) (g := (mkF m 1 #[.val (.long q0), .second] [(.long q0)])) rfl (hb hby d2_1) _ ?_
    show Steps p.tables e below (s₁.setTop (mkF m 4 #[.val (.long q0), .second] [(.long (10000 : Int64)), (.long q0)])) _
    refine XS.lcmp X0.here hx rfl (hb hby d2_4) rfl ?_
    show Steps p.tables e below (s₁.setTop (mkF m 5 #[.val (.long q0), .second] [(.int (lcmpW q0 (10000 : Int64)))])) _
    by_cases c9 : (10000 : Int64) < q0
    · refine XS.ifNo X0.here hx rfl (hb hby d2_5) rfl ((if0 _ _).trans (tlt ((lw_gt q0 (10000 : Int64)).mpr c9)).2.2.2) ?_
      show Steps p.tables e below (s₁.setTop (mkF m 8 #[.val (.long q0), .second] [])) _
      refine XS.lloadN X0.here hx rfl (hb hby d2_8) rfl ?_
      show Steps p.tables e below (s₁.setTop (mkF m 9 #[.val (.long q0), .second] [(.long q0)])) _
      refine XS.lconst X0.here hx rfl (hb hby d2_9) ?_
      show Steps p.tables e below (s₁.setTop (mkF m 10 #[.val (.long q0), .second] [(.long (1 : Int64)), (.long q0)])) _
      refine XS.lsub X0.here hx rfl (hb hby d2_10) rfl ?_
      show Steps p.tables e below (s₁.setTop (mkF m 11 #[.val (.long q0), .second] [(.long (q0 - (1 : Int64)))])) _
      refine X0.ldc2Long hx hown (mvT hZ (hw _ (List.mem_of_getElem? (i := 13) rfl))) (g := (mkF m 11 #[.val (.long q0), .second] [(.long (q0 - (1 : Int64)))])) rfl (hb hby d2_11) _ ?_
      show Steps p.tables e below (s₁.setTop (mkF m 14 #[.val (.long q0), .second] [(.long (100 : Int64)), (.long (q0 - (1 : Int64)))])) _
      refine XS.ldiv X0.here hx rfl (hb hby d2_14) rfl (by decide) ?_
      show Steps p.tables e below (s₁.setTop (mkF m 15 #[.val (.long q0), .second] [(.long ((q0 - (1 : Int64)) / (100 : Int64)))])) _
      refine X0.ldc2Long hx hown (mvT hZ (hw _ (List.mem_of_getElem? (i := 13) rfl))) (g := (mkF m 15 #[.val (.long q0), .second] [(.long ((q0 - (1 : Int64)) / (100 : Int64)))])) rfl (hb hby d2_15) _ ?_
      show Steps p.tables e below (s₁.setTop (mkF m 18 #[.val (.long q0), .second] [(.long (100 : Int64)), (.long ((q0 - (1 : Int64)) / (100 : Int64)))])) _
      refine XS.lmul X0.here hx rfl (hb hby d2_18) rfl ?_
      show Steps p.tables e below (s₁.setTop (mkF m 19 #[.val (.long q0), .second] [(.long (((q0 - (1 : Int64)) / (100 : Int64)) * (100 : Int64)))])) _
      have hv : f2 q0 = (((q0 - (1 : Int64)) / (100 : Int64)) * (100 : Int64)) := by unfold f2; rw [if_pos c9]
      rw [hv] at hr
      exact Jvm.Stand.lreturnOut X0 hx Bd.returns (hb hby d2_19) hr
    · refine XS.ifYes X0.here hx rfl (pc0 := 5) (pc' := 20) rfl (hb hby d2_5) rfl ((if0 _ _).trans (flt (fun q => c9 ((lw_gt q0 (10000 : Int64)).mp q))).2.2.2) (by decide) (by decide) ?_
      show Steps p.tables e below (s₁.setTop (mkF m 20 #[.val (.long q0), .second] [])) _
      refine XS.lloadN X0.here hx rfl (hb hby d2_20) rfl ?_
      show Steps p.tables e below (s₁.setTop (mkF m 21 #[.val (.long q0), .second] [(.long q0)])) _
      refine XS.lconst X0.here hx rfl (hb hby d2_21) ?_
      show Steps p.tables e below (s₁.setTop (mkF m 22 #[.val (.long q0), .second] [(.long (1 : Int64)), (.long q0)])) _
      refine XS.lcmp X0.here hx rfl (hb hby d2_22) rfl ?_
      show Steps p.tables e below (s₁.setTop (mkF m 23 #[.val (.long q0), .second] [(.int (lcmpW q0 (1 : Int64)))])) _
      by_cases c10 : (1 : Int64) < q0
      · refine XS.ifNo X0.here hx rfl (hb hby d2_23) rfl ((if0 _ _).trans (tlt ((lw_gt q0 (1 : Int64)).mpr c10)).2.2.2) ?_
        show Steps p.tables e below (s₁.setTop (mkF m 26 #[.val (.long q0), .second] [])) _
        refine XS.lloadN X0.here hx rfl (hb hby d2_26) rfl ?_
        show Steps p.tables e below (s₁.setTop (mkF m 27 #[.val (.long q0), .second] [(.long q0)])) _
        refine XS.lconst X0.here hx rfl (hb hby d2_27) ?_
        show Steps p.tables e below (s₁.setTop (mkF m 28 #[.val (.long q0), .second] [(.long (1 : Int64)), (.long q0)])) _
        refine XS.lsub X0.here hx rfl (hb hby d2_28) rfl ?_
        show Steps p.tables e below (s₁.setTop (mkF m 29 #[.val (.long q0), .second] [(.long (q0 - (1 : Int64)))])) _
        refine XS.goto X0.here hx rfl (pc0 := 29) (pc' := 33) rfl (hb hby d2_29) (by decide) (by decide) ?_
        show Steps p.tables e below (s₁.setTop (mkF m 33 #[.val (.long q0), .second] [(.long (q0 - (1 : Int64)))])) _
        have hv : f2 q0 = (q0 - (1 : Int64)) := by unfold f2; rw [if_neg c9, if_pos c10]
        rw [hv] at hr
        exact Jvm.Stand.lreturnOut X0 hx Bd.returns (hb hby d2_33) hr
      · refine XS.ifYes X0.here hx rfl (pc0 := 23) (pc' := 32) rfl (hb hby d2_23) rfl ((if0 _ _).trans (flt (fun q => c10 ((lw_gt q0 (1 : Int64)).mp q))).2.2.2) (by decide) (by decide) ?_
        show Steps p.tables e below (s₁.setTop (mkF m 32 #[.val (.long q0), .second] [])) _
        refine XS.lconst X0.here hx rfl (hb hby d2_32) ?_
        show Steps p.tables e below (s₁.setTop (mkF m 33 #[.val (.long q0), .second] [(.long (0 : Int64))])) _
        have hv : f2 q0 = (0 : Int64) := by unfold f2; rw [if_neg c9, if_neg c10]
        rw [hv] at hr
        exact Jvm.Stand.lreturnOut X0 hx Bd.returns (hb hby d2_33) hr
  · show Q2 q0 h0 n0 _ s₁.heap _
    rw [e0]
    exact ⟨rfl, N0, rfl⟩
theorem own_law (p : Int64) :
    (¬ (1 : Int64) < p → f2 p = (0 : Int64)) ∧ ((1 : Int64) < p → (0 : Int64) < f2 p ∧ f2 p < p ∧ (f2 p < (10000 : Int64) → ¬ (1 : Int64) < (p - f2 p)) ∧ (¬ f2 p < (10000 : Int64) → (f2 p - (f2 p / (100 : Int64)) * (100 : Int64)) = (0 : Int64) ∧ ¬ (100 : Int64) < (p - f2 p))) := by
  have l1 := p.toInt_lt
  have l2 := p.le_toInt
  have k1 : (10000 : Int64).toInt = 10000 := by decide
  have k3 : (100 : Int64).toInt = 100 := by decide
  have k5 : (1 : Int64).toInt = 1 := by decide
  have k6 : (0 : Int64).toInt = 0 := by decide
  have hf : f2 p = if (10000 : Int64) < p then ((p - (1 : Int64)) / (100 : Int64)) * (100 : Int64) else if (1 : Int64) < p then p - (1 : Int64) else (0 : Int64) := rfl
  simp only [Int64.lt_iff_toInt_lt, k1, k5, k6] at hf ⊢
  refine ⟨fun q => by rw [hf, if_neg (by omega), if_neg q], fun q => ?_⟩
  have hs : (p - (1 : Int64)).toInt = p.toInt - 1 := by rw [Jvm.Kit.i64_sub (by omega) (by omega), k5]
  by_cases r : 10000 < p.toInt
  · have hd : ((p - (1 : Int64)) / (100 : Int64)).toInt = (p.toInt - 1) / 100 := by rw [Jvm.Kit.i64_div (by omega), k3, hs, Int.tdiv_eq_ediv_of_nonneg (by omega)]
    have hm : (((p - (1 : Int64)) / (100 : Int64)) * (100 : Int64)).toInt = (p.toInt - 1) / 100 * 100 := by rw [Jvm.Kit.i64_mul (by rw [hd, k3]; omega) (by rw [hd, k3]; omega), hd, k3]
    rw [if_pos r] at hf
    rw [hf]
    have hv : (p - ((p - (1 : Int64)) / (100 : Int64)) * (100 : Int64)).toInt = p.toInt - (p.toInt - 1) / 100 * 100 := by rw [Jvm.Kit.i64_sub (by omega) (by omega), hm]
    rw [hv, hm, k3]
    refine ⟨by omega, by omega, by omega, fun _ => ⟨?_, by omega⟩⟩
    apply Int64.toInt_inj.mp
    rw [Jvm.Kit.i64_rem_nonneg (by omega), hm, k3, k6]; omega
  · rw [if_neg r, if_pos q] at hf
    rw [hf]
    have hv : (p - (p - (1 : Int64))).toInt = 1 := by rw [Jvm.Kit.i64_sub (by omega) (by omega), hs]; omega
    rw [hv, hs, k3]
    refine ⟨by omega, by omega, by omega, fun _ => by omega⟩
theorem ef_0 (m : MethodId) (x0 : Int64) (x1 : Int32) : entryFrame m #[(.long x0), (.int x1)] maxLocals = mkF m 0 #[.val (.long x0), .second, .val (.int x1), .unset, .unset, .unset, .unset, .unset, .unset, .unset] [] := by first | (simp [entryFrame, mkF, argsToLocals, Value.category, maxLocals]; done) | rfl
def Q0 (xv : Int64) (kv : Int32) (h0 : Heap) (n0 : Nat) (v : Option Value) (h : Heap) (L : List Loc) : Prop := v = some (.int (1 : Int32)) ∧ Fr n0 L
set_option maxRecDepth 65536 in
set_option maxHeartbeats 40000000 in
theorem rm0 (l : Launch) (Z : State) (a0 : Array Value) (hw : ∀ d ∈ tables_1, d.before a0 Z = true) (ws : List Jvm.Cond) (xv : Int64) (kv : Int32)  (h0 : Heap) (n0 : Nat) (Z0 : n0 ≤ h0.size)  :
    MetFree l x (head1 (Jvm.Cond.code x code maxLocals ret :: ws) room_1) (fun a U => a = #[(.long xv), (.int kv)] ∧ Z.Warmed39 U.vm ∧ U.heap = h0) (fun _ _ _ _ _ => True) (fun _ U o U' => ∃ v L, o = .returned v ∧ Q0 xv kv h0 n0 v U'.heap L ∧ FrameEnd U o U' L room_1.cells room_1.slots) := by
  refine MetFree.of_bodySF (plainFor_of_name pn_1) hisR ?_
  intro p e s m args below meth c s₁ Bd hml0 hP hK
  obtain ⟨rfl, hZ, hh⟩ := hP
  have hx := Bd.exec
  have hby := Bd.bytes
  have hml : c.maxLocals = 10 := hml0
  have hown : s.vm.findClass "com/example/tidebook/tidebook/book/PriceBelowPinLaw" = some m.cls := findClass_of_methodNamed Bd.named
  have hnm := (name_of_methodNamed Bd.named Bd.method).1
  have X0 : Stand p l e room_1 s m #[(.long xv), (.int kv)] below meth c s₁ [] 0 0 := Stand.of_body Bd
  have e0 : s₁.heap = h0 := by rw [← hh, Bd.state]; rfl
  have N0 := Fr.nil n0
  have pre0 : ∀ t, Steps p.tables e below (s₁.setTop (mkF m 0 #[.val (.long xv), .second, .val (.int kv), .unset, .unset, .unset, .unset, .unset, .unset, .unset] [])) t → Steps p.tables e below (s₁.setTop (entryFrame m #[(.long xv), (.int kv)] maxLocals)) t := fun t k => castTop (ef_0 m xv kv) k
  have pre11 : ∀ t, Steps p.tables e below (s₁.setTop (mkF m 2 #[.val (.long xv), .second, .val (.int kv), .unset, .unset, .unset, .unset, .unset, .unset, .unset] [(.int kv), (.long xv)])) t → Steps p.tables e below (s₁.setTop (entryFrame m #[(.long xv), (.int kv)] maxLocals)) t := fun t k => by
    refine pre0 _ ?_
    show Steps p.tables e below (s₁.setTop (mkF m 0 #[.val (.long xv), .second, .val (.int kv), .unset, .unset, .unset, .unset, .unset, .unset, .unset] [])) _
    refine XS.lloadN X0.here hx rfl (hb hby at_0) rfl ?_
    show Steps p.tables e below (s₁.setTop (mkF m 1 #[.val (.long xv), .second, .val (.int kv), .unset, .unset, .unset, .unset, .unset, .unset, .unset] [(.long xv)])) _
    refine XS.iloadN X0.here hx rfl (hb hby at_1) rfl ?_
    show Steps p.tables e below (s₁.setTop (mkF m 2 #[.val (.long xv), .second, .val (.int kv), .unset, .unset, .unset, .unset, .unset, .unset, .unset] [(.int kv), (.long xv)])) _
    exact k
  obtain ⟨_, _, ⟨T12, L12, k12, n12⟩, -, X12, ⟨Lc12, hQ12, l12, y12, z12⟩, st12⟩ := Jvm.LawKit.callS X0 hx (y := (⟨"com/example/tidebook/tidebook/book/PriceBelowPinLaw", "pick", "(JI)J"⟩ : MethodName)) hown (mvT hZ (hw _ (List.mem_of_getElem? (i := 0) rfl))) (mvT hZ (hw _ (List.mem_of_getElem? (i := 1) rfl))) (mvT hZ (hw _ (List.mem_of_getElem? (i := 2) rfl))) (mvT hZ (hw _ (List.mem_of_getElem? (i := 3) rfl))) (by decide) (backOf (W := 0) (rm1 l Z a0 hw [] xv kv  h0 n0 Z0 ) hZ (hw _ (List.mem_of_getElem? (i := 3) rfl)) (hw _ (List.mem_of_getElem? (i := 2) rfl)) (by decide) (by decide)) (g := (mkF m 2 #[.val (.long xv), .second, .val (.int kv), .unset, .unset, .unset, .unset, .unset, .unset, .unset] [(.int kv), (.long xv)])) rfl (by rw [hml]; rfl) (argsL := [(.long xv), (.int kv)]) (rest := []) (lenOf pd_0 rfl) rfl (by show 2 * 0 + _ ≤ _; exact Nat.le_of_eq rfl) (hb hby at_2) (fun _ _ => ⟨rfl, e0, (by decide : 0 + 0 ≤ _), (by decide : 0 + 0 ≤ _)⟩)
  dsimp only [Pt.U, Pt.locs, Pt.cells, Pt.slots] at X12 l12 y12 z12 st12 hQ12
  subst l12 y12 z12
  obtain ⟨rfl, N12q, e12⟩ := hQ12
  have N12 := Fr.app N0 N12q
  have pre12 : ∀ t, Steps p.tables e below (T12.setTop (mkF m 5 #[.val (.long xv), .second, .val (.int kv), .unset, .unset, .unset, .unset, .unset, .unset, .unset] [(.long (f1 xv kv))])) t → Steps p.tables e below (s₁.setTop (entryFrame m #[(.long xv), (.int kv)] maxLocals)) t := fun t k => pre11 _ (st12 t k)
  have pre13 : ∀ t, Steps p.tables e below (T12.setTop (mkF m 6 #[.val (.long xv), .second, .val (.int kv), .val (.long (f1 xv kv)), .second, .unset, .unset, .unset, .unset, .unset] [])) t → Steps p.tables e below (s₁.setTop (entryFrame m #[(.long xv), (.int kv)] maxLocals)) t := fun t k => by
    refine pre12 _ ?_
    show Steps p.tables e below (T12.setTop (mkF m 5 #[.val (.long xv), .second, .val (.int kv), .unset, .unset, .unset, .unset, .unset, .unset, .unset] [(.long (f1 xv kv))])) _
    refine XS.lstoreN X12.here hx rfl (hb hby at_5) rfl (l' := #[.val (.long xv), .second, .val (.int kv), .val (.long (f1 xv kv)), .second, .unset, .unset, .unset, .unset, .unset]) rfl ?_
    show Steps p.tables e below (T12.setTop (mkF m 6 #[.val (.long xv), .second, .val (.int kv), .val (.long (f1 xv kv)), .second, .unset, .unset, .unset, .unset, .unset] [])) _
    exact k
  obtain ⟨pv, e_pv⟩ : ∃ z : Int64, z = (f1 xv kv) := ⟨_, rfl⟩
  have pre14 : ∀ t, Steps p.tables e below (T12.setTop (mkF m 6 #[.val (.long xv), .second, .val (.int kv), .val (.long pv), .second, .unset, .unset, .unset, .unset, .unset] [])) t → Steps p.tables e below (s₁.setTop (entryFrame m #[(.long xv), (.int kv)] maxLocals)) t := by rw [e_pv]; exact pre13
  have pre15 : ∀ t, Steps p.tables e below (T12.setTop (mkF m 7 #[.val (.long xv), .second, .val (.int kv), .val (.long pv), .second, .unset, .unset, .unset, .unset, .unset] [(.long pv)])) t → Steps p.tables e below (s₁.setTop (entryFrame m #[(.long xv), (.int kv)] maxLocals)) t := fun t k => by
    refine pre14 _ ?_
    show Steps p.tables e below (T12.setTop (mkF m 6 #[.val (.long xv), .second, .val (.int kv), .val (.long pv), .second, .unset, .unset, .unset, .unset, .unset] [])) _
    refine XS.lloadN X12.here hx rfl (hb hby at_6) rfl ?_
    show Steps p.tables e below (T12.setTop (mkF m 7 #[.val (.long xv), .second, .val (.int kv), .val (.long pv), .second, .unset, .unset, .unset, .unset, .unset] [(.long pv)])) _
    exact k
  obtain ⟨_, _, ⟨T16, L16, k16, n16⟩, -, X16, ⟨Lc16, hQ16, l16, y16, z16⟩, st16⟩ := Jvm.LawKit.callS X12 hx (y := (⟨"com/example/tidebook/tidebook/book/Price", "below", "(J)J"⟩ : MethodName)) hown (mvT hZ (hw _ (List.mem_of_getElem? (i := 5) rfl))) (mvT hZ (hw _ (List.mem_of_getElem? (i := 6) rfl))) (mvT hZ (hw _ (List.mem_of_getElem? (i := 7) rfl))) (mvT hZ (hw _ (List.mem_of_getElem? (i := 8) rfl))) (by decide) (backOf (W := 0) (rm2 l Z a0 hw [] pv  h0 n0 Z0 ) hZ (hw _ (List.mem_of_getElem? (i := 8) rfl)) (hw _ (List.mem_of_getElem? (i := 7) rfl)) (by decide) (by decide)) (g := (mkF m 7 #[.val (.long xv), .second, .val (.int kv), .val (.long pv), .second, .unset, .unset, .unset, .unset, .unset] [(.long pv)])) rfl (by rw [hml]; rfl) (argsL := [(.long pv)]) (rest := []) (lenOf pd_1 rfl) rfl (by show 2 * 0 + _ ≤ _; exact Nat.le_of_eq rfl) (hb hby at_7) (fun _ _ => ⟨rfl, e12, (by decide : 0 + 0 ≤ _), (by decide : 0 + 0 ≤ _)⟩)
  dsimp only [Pt.U, Pt.locs, Pt.cells, Pt.slots] at X16 l16 y16 z16 st16 hQ16
  subst l16 y16 z16
  obtain ⟨rfl, N16q, e16⟩ := hQ16
  have N16 := Fr.app N12 N16q
  have pre16 : ∀ t, Steps p.tables e below (T16.setTop (mkF m 10 #[.val (.long xv), .second, .val (.int kv), .val (.long pv), .second, .unset, .unset, .unset, .unset, .unset] [(.long (f2 pv))])) t → Steps p.tables e below (s₁.setTop (entryFrame m #[(.long xv), (.int kv)] maxLocals)) t := fun t k => pre15 _ (st16 t k)
  have hl := own_law pv
  obtain ⟨fs, hr, hrun, hended, hW, hsame⟩ := X16.leave (v := some (.int (1 : Int32))) (fun h => by rw [Bd.returns] at h; cases h)
  refine ⟨_, _, pre16 _ ?_, hrun, hended, _, _, rfl, ?_, ⟨_, rfl⟩, hW, hsame.mono (by decide) (by decide)⟩
  · show Steps p.tables e below (T16.setTop (mkF m 10 #[.val (.long xv), .second, .val (.int kv), .val (.long pv), .second, .unset, .unset, .unset, .unset, .unset] [(.long (f2 pv))])) _
    refine XS.lstore X16.here hx rfl (hb hby at_10) rfl (l' := #[.val (.long xv), .second, .val (.int kv), .val (.long pv), .second, .val (.long (f2 pv)), .second, .unset, .unset, .unset]) rfl ?_
    show Steps p.tables e below (T16.setTop (mkF m 12 #[.val (.long xv), .second, .val (.int kv), .val (.long pv), .second, .val (.long (f2 pv)), .second, .unset, .unset, .unset] [])) _
    refine XS.lloadN X16.here hx rfl (hb hby at_12) rfl ?_
    show Steps p.tables e below (T16.setTop (mkF m 13 #[.val (.long xv), .second, .val (.int kv), .val (.long pv), .second, .val (.long (f2 pv)), .second, .unset, .unset, .unset] [(.long pv)])) _
    refine XS.lconst X16.here hx rfl (hb hby at_13) ?_
    show Steps p.tables e below (T16.setTop (mkF m 14 #[.val (.long xv), .second, .val (.int kv), .val (.long pv), .second, .val (.long (f2 pv)), .second, .unset, .unset, .unset] [(.long (1 : Int64)), (.long pv)])) _
    refine XS.lcmp X16.here hx rfl (hb hby at_14) rfl ?_
    show Steps p.tables e below (T16.setTop (mkF m 15 #[.val (.long xv), .second, .val (.int kv), .val (.long pv), .second, .val (.long (f2 pv)), .second, .unset, .unset, .unset] [(.int (lcmpW pv (1 : Int64)))])) _
    by_cases c17 : (1 : Int64) < pv
    · refine XS.ifYes X16.here hx rfl (pc0 := 15) (pc' := 31) rfl (hb hby at_15) rfl ((if0 _ _).trans (tlt ((lw_gt pv (1 : Int64)).mpr c17)).2.2.1) (by decide) (by decide) ?_
      show Steps p.tables e below (T16.setTop (mkF m 31 #[.val (.long xv), .second, .val (.int kv), .val (.long pv), .second, .val (.long (f2 pv)), .second, .unset, .unset, .unset] [])) _
      refine XS.lload X16.here hx rfl (hb hby at_31) rfl ?_
      show Steps p.tables e below (T16.setTop (mkF m 33 #[.val (.long xv), .second, .val (.int kv), .val (.long pv), .second, .val (.long (f2 pv)), .second, .unset, .unset, .unset] [(.long (f2 pv))])) _
      refine XS.lconst X16.here hx rfl (hb hby at_33) ?_
      show Steps p.tables e below (T16.setTop (mkF m 34 #[.val (.long xv), .second, .val (.int kv), .val (.long pv), .second, .val (.long (f2 pv)), .second, .unset, .unset, .unset] [(.long (0 : Int64)), (.long (f2 pv))])) _
      refine XS.lcmp X16.here hx rfl (hb hby at_34) rfl ?_
      show Steps p.tables e below (T16.setTop (mkF m 35 #[.val (.long xv), .second, .val (.int kv), .val (.long pv), .second, .val (.long (f2 pv)), .second, .unset, .unset, .unset] [(.int (lcmpW (f2 pv) (0 : Int64)))])) _
      refine XS.ifNo X16.here hx rfl (hb hby at_35) rfl ((if0 _ _).trans (tlt ((lw_gt (f2 pv) (0 : Int64)).mpr (hl.2 c17).1)).2.2.2) ?_
      show Steps p.tables e below (T16.setTop (mkF m 38 #[.val (.long xv), .second, .val (.int kv), .val (.long pv), .second, .val (.long (f2 pv)), .second, .unset, .unset, .unset] [])) _
      refine XS.lload X16.here hx rfl (hb hby at_38) rfl ?_
      show Steps p.tables e below (T16.setTop (mkF m 40 #[.val (.long xv), .second, .val (.int kv), .val (.long pv), .second, .val (.long (f2 pv)), .second, .unset, .unset, .unset] [(.long (f2 pv))])) _
      refine XS.lloadN X16.here hx rfl (hb hby at_40) rfl ?_
      show Steps p.tables e below (T16.setTop (mkF m 41 #[.val (.long xv), .second, .val (.int kv), .val (.long pv), .second, .val (.long (f2 pv)), .second, .unset, .unset, .unset] [(.long pv), (.long (f2 pv))])) _
      refine XS.lcmp X16.here hx rfl (hb hby at_41) rfl ?_
      show Steps p.tables e below (T16.setTop (mkF m 42 #[.val (.long xv), .second, .val (.int kv), .val (.long pv), .second, .val (.long (f2 pv)), .second, .unset, .unset, .unset] [(.int (lcmpW (f2 pv) pv))])) _
      refine XS.ifYes X16.here hx rfl (pc0 := 42) (pc' := 47) rfl (hb hby at_42) rfl ((if0 _ _).trans (tlt ((lw_lt (f2 pv) pv).mpr (hl.2 c17).2.1)).1) (by decide) (by decide) ?_
      show Steps p.tables e below (T16.setTop (mkF m 47 #[.val (.long xv), .second, .val (.int kv), .val (.long pv), .second, .val (.long (f2 pv)), .second, .unset, .unset, .unset] [])) _
      refine XS.lload X16.here hx rfl (hb hby at_47) rfl ?_
      show Steps p.tables e below (T16.setTop (mkF m 49 #[.val (.long xv), .second, .val (.int kv), .val (.long pv), .second, .val (.long (f2 pv)), .second, .unset, .unset, .unset] [(.long (f2 pv))])) _
      refine X16.ldc2Long hx hown (mvT hZ (hw _ (List.mem_of_getElem? (i := 10) rfl))) (g := (mkF m 49 #[.val (.long xv), .second, .val (.int kv), .val (.long pv), .second, .val (.long (f2 pv)), .second, .unset, .unset, .unset] [(.long (f2 pv))])) rfl (hb hby at_49) _ ?_
      show Steps p.tables e below (T16.setTop (mkF m 52 #[.val (.long xv), .second, .val (.int kv), .val (.long pv), .second, .val (.long (f2 pv)), .second, .unset, .unset, .unset] [(.long (10000 : Int64)), (.long (f2 pv))])) _
      refine XS.lcmp X16.here hx rfl (hb hby at_52) rfl ?_
      show Steps p.tables e below (T16.setTop (mkF m 53 #[.val (.long xv), .second, .val (.int kv), .val (.long pv), .second, .val (.long (f2 pv)), .second, .unset, .unset, .unset] [(.int (lcmpW (f2 pv) (10000 : Int64)))])) _
      by_cases c18 : (f2 pv) < (10000 : Int64)
      · refine XS.ifYes X16.here hx rfl (pc0 := 53) (pc' := 67) rfl (hb hby at_53) rfl ((if0 _ _).trans (tlt ((lw_lt (f2 pv) (10000 : Int64)).mpr c18)).1) (by decide) (by decide) ?_
        show Steps p.tables e below (T16.setTop (mkF m 67 #[.val (.long xv), .second, .val (.int kv), .val (.long pv), .second, .val (.long (f2 pv)), .second, .unset, .unset, .unset] [])) _
        refine XS.iconst X16.here hx rfl (hb hby at_67) ?_
        show Steps p.tables e below (T16.setTop (mkF m 68 #[.val (.long xv), .second, .val (.int kv), .val (.long pv), .second, .val (.long (f2 pv)), .second, .unset, .unset, .unset] [(.int (1 : Int32))])) _
        refine XS.goto X16.here hx rfl (pc0 := 68) (pc' := 72) rfl (hb hby at_68) (by decide) (by decide) ?_
        show Steps p.tables e below (T16.setTop (mkF m 72 #[.val (.long xv), .second, .val (.int kv), .val (.long pv), .second, .val (.long (f2 pv)), .second, .unset, .unset, .unset] [(.int (1 : Int32))])) _
        refine XS.istore X16.here hx rfl (hb hby at_72) rfl (l' := #[.val (.long xv), .second, .val (.int kv), .val (.long pv), .second, .val (.long (f2 pv)), .second, .val (.int (1 : Int32)), .unset, .unset]) rfl ?_
        show Steps p.tables e below (T16.setTop (mkF m 74 #[.val (.long xv), .second, .val (.int kv), .val (.long pv), .second, .val (.long (f2 pv)), .second, .val (.int (1 : Int32)), .unset, .unset] [])) _
        refine XS.iload X16.here hx rfl (hb hby at_74) rfl ?_
        show Steps p.tables e below (T16.setTop (mkF m 76 #[.val (.long xv), .second, .val (.int kv), .val (.long pv), .second, .val (.long (f2 pv)), .second, .val (.int (1 : Int32)), .unset, .unset] [(.int (1 : Int32))])) _
        refine XS.ifYes X16.here hx rfl (pc0 := 76) (pc' := 81) rfl (hb hby at_76) rfl ((if0 _ _).trans (feq (by decide : ¬ ((1 : Int32) = (0 : Int32)))).2) (by decide) (by decide) ?_
        show Steps p.tables e below (T16.setTop (mkF m 81 #[.val (.long xv), .second, .val (.int kv), .val (.long pv), .second, .val (.long (f2 pv)), .second, .val (.int (1 : Int32)), .unset, .unset] [])) _
        refine XS.lload X16.here hx rfl (hb hby at_81) rfl ?_
        show Steps p.tables e below (T16.setTop (mkF m 83 #[.val (.long xv), .second, .val (.int kv), .val (.long pv), .second, .val (.long (f2 pv)), .second, .val (.int (1 : Int32)), .unset, .unset] [(.long (f2 pv))])) _
        refine X16.ldc2Long hx hown (mvT hZ (hw _ (List.mem_of_getElem? (i := 10) rfl))) (g := (mkF m 83 #[.val (.long xv), .second, .val (.int kv), .val (.long pv), .second, .val (.long (f2 pv)), .second, .val (.int (1 : Int32)), .unset, .unset] [(.long (f2 pv))])) rfl (hb hby at_83) _ ?_
        show Steps p.tables e below (T16.setTop (mkF m 86 #[.val (.long xv), .second, .val (.int kv), .val (.long pv), .second, .val (.long (f2 pv)), .second, .val (.int (1 : Int32)), .unset, .unset] [(.long (10000 : Int64)), (.long (f2 pv))])) _
        refine XS.lcmp X16.here hx rfl (hb hby at_86) rfl ?_
        show Steps p.tables e below (T16.setTop (mkF m 87 #[.val (.long xv), .second, .val (.int kv), .val (.long pv), .second, .val (.long (f2 pv)), .second, .val (.int (1 : Int32)), .unset, .unset] [(.int (lcmpW (f2 pv) (10000 : Int64)))])) _
        refine XS.ifNo X16.here hx rfl (hb hby at_87) rfl ((if0 _ _).trans (tlt ((lw_lt (f2 pv) (10000 : Int64)).mpr c18)).2.1) ?_
        show Steps p.tables e below (T16.setTop (mkF m 90 #[.val (.long xv), .second, .val (.int kv), .val (.long pv), .second, .val (.long (f2 pv)), .second, .val (.int (1 : Int32)), .unset, .unset] [])) _
        refine XS.lconst X16.here hx rfl (hb hby at_90) ?_
        show Steps p.tables e below (T16.setTop (mkF m 91 #[.val (.long xv), .second, .val (.int kv), .val (.long pv), .second, .val (.long (f2 pv)), .second, .val (.int (1 : Int32)), .unset, .unset] [(.long (1 : Int64))])) _
        refine XS.goto X16.here hx rfl (pc0 := 91) (pc' := 97) rfl (hb hby at_91) (by decide) (by decide) ?_
        show Steps p.tables e below (T16.setTop (mkF m 97 #[.val (.long xv), .second, .val (.int kv), .val (.long pv), .second, .val (.long (f2 pv)), .second, .val (.int (1 : Int32)), .unset, .unset] [(.long (1 : Int64))])) _
        refine XS.lstore X16.here hx rfl (hb hby at_97) rfl (l' := #[.val (.long xv), .second, .val (.int kv), .val (.long pv), .second, .val (.long (f2 pv)), .second, .val (.int (1 : Int32)), .val (.long (1 : Int64)), .second]) rfl ?_
        show Steps p.tables e below (T16.setTop (mkF m 99 #[.val (.long xv), .second, .val (.int kv), .val (.long pv), .second, .val (.long (f2 pv)), .second, .val (.int (1 : Int32)), .val (.long (1 : Int64)), .second] [])) _
        refine XS.lloadN X16.here hx rfl (hb hby at_99) rfl ?_
        show Steps p.tables e below (T16.setTop (mkF m 100 #[.val (.long xv), .second, .val (.int kv), .val (.long pv), .second, .val (.long (f2 pv)), .second, .val (.int (1 : Int32)), .val (.long (1 : Int64)), .second] [(.long pv)])) _
        refine XS.lload X16.here hx rfl (hb hby at_100) rfl ?_
        show Steps p.tables e below (T16.setTop (mkF m 102 #[.val (.long xv), .second, .val (.int kv), .val (.long pv), .second, .val (.long (f2 pv)), .second, .val (.int (1 : Int32)), .val (.long (1 : Int64)), .second] [(.long (f2 pv)), (.long pv)])) _
        refine XS.lsub X16.here hx rfl (hb hby at_102) rfl ?_
        show Steps p.tables e below (T16.setTop (mkF m 103 #[.val (.long xv), .second, .val (.int kv), .val (.long pv), .second, .val (.long (f2 pv)), .second, .val (.int (1 : Int32)), .val (.long (1 : Int64)), .second] [(.long (pv - (f2 pv)))])) _
        refine XS.lload X16.here hx rfl (hb hby at_103) rfl ?_
        show Steps p.tables e below (T16.setTop (mkF m 105 #[.val (.long xv), .second, .val (.int kv), .val (.long pv), .second, .val (.long (f2 pv)), .second, .val (.int (1 : Int32)), .val (.long (1 : Int64)), .second] [(.long (1 : Int64)), (.long (pv - (f2 pv)))])) _
        refine XS.lcmp X16.here hx rfl (hb hby at_105) rfl ?_
        show Steps p.tables e below (T16.setTop (mkF m 106 #[.val (.long xv), .second, .val (.int kv), .val (.long pv), .second, .val (.long (f2 pv)), .second, .val (.int (1 : Int32)), .val (.long (1 : Int64)), .second] [(.int (lcmpW (pv - (f2 pv)) (1 : Int64)))])) _
        refine XS.ifNo X16.here hx rfl (hb hby at_106) rfl ((if0 _ _).trans (flt (fun q => ((hl.2 c17).2.2.1 c18) ((lw_gt (pv - (f2 pv)) (1 : Int64)).mp q))).2.2.1) ?_
        show Steps p.tables e below (T16.setTop (mkF m 109 #[.val (.long xv), .second, .val (.int kv), .val (.long pv), .second, .val (.long (f2 pv)), .second, .val (.int (1 : Int32)), .val (.long (1 : Int64)), .second] [])) _
        refine XS.iconst X16.here hx rfl (hb hby at_109) ?_
        show Steps p.tables e below (T16.setTop (mkF m 110 #[.val (.long xv), .second, .val (.int kv), .val (.long pv), .second, .val (.long (f2 pv)), .second, .val (.int (1 : Int32)), .val (.long (1 : Int64)), .second] [(.int (1 : Int32))])) _
        refine XS.goto X16.here hx rfl (pc0 := 110) (pc' := 114) rfl (hb hby at_110) (by decide) (by decide) ?_
        show Steps p.tables e below (T16.setTop (mkF m 114 #[.val (.long xv), .second, .val (.int kv), .val (.long pv), .second, .val (.long (f2 pv)), .second, .val (.int (1 : Int32)), .val (.long (1 : Int64)), .second] [(.int (1 : Int32))])) _
        exact retN X16 hx (t := .boolean) Bd.returns (by simp) (hb hby at_114) hr
      · refine XS.ifNo X16.here hx rfl (hb hby at_53) rfl ((if0 _ _).trans (flt (fun q => c18 ((lw_lt (f2 pv) (10000 : Int64)).mp q))).1) ?_
        show Steps p.tables e below (T16.setTop (mkF m 56 #[.val (.long xv), .second, .val (.int kv), .val (.long pv), .second, .val (.long (f2 pv)), .second, .unset, .unset, .unset] [])) _
        refine XS.lload X16.here hx rfl (hb hby at_56) rfl ?_
        show Steps p.tables e below (T16.setTop (mkF m 58 #[.val (.long xv), .second, .val (.int kv), .val (.long pv), .second, .val (.long (f2 pv)), .second, .unset, .unset, .unset] [(.long (f2 pv))])) _
        refine X16.ldc2Long hx hown (mvT hZ (hw _ (List.mem_of_getElem? (i := 14) rfl))) (g := (mkF m 58 #[.val (.long xv), .second, .val (.int kv), .val (.long pv), .second, .val (.long (f2 pv)), .second, .unset, .unset, .unset] [(.long (f2 pv))])) rfl (hb hby at_58) _ ?_
        show Steps p.tables e below (T16.setTop (mkF m 61 #[.val (.long xv), .second, .val (.int kv), .val (.long pv), .second, .val (.long (f2 pv)), .second, .unset, .unset, .unset] [(.long (100 : Int64)), (.long (f2 pv))])) _
        refine XS.lrem X16.here hx rfl (hb hby at_61) rfl (by decide) ?_
        show Steps p.tables e below (T16.setTop (mkF m 62 #[.val (.long xv), .second, .val (.int kv), .val (.long pv), .second, .val (.long (f2 pv)), .second, .unset, .unset, .unset] [(.long ((f2 pv) - ((f2 pv) / (100 : Int64)) * (100 : Int64)))])) _
        refine XS.lconst X16.here hx rfl (hb hby at_62) ?_
        show Steps p.tables e below (T16.setTop (mkF m 63 #[.val (.long xv), .second, .val (.int kv), .val (.long pv), .second, .val (.long (f2 pv)), .second, .unset, .unset, .unset] [(.long (0 : Int64)), (.long ((f2 pv) - ((f2 pv) / (100 : Int64)) * (100 : Int64)))])) _
        refine XS.lcmp X16.here hx rfl (hb hby at_63) rfl ?_
        show Steps p.tables e below (T16.setTop (mkF m 64 #[.val (.long xv), .second, .val (.int kv), .val (.long pv), .second, .val (.long (f2 pv)), .second, .unset, .unset, .unset] [(.int (lcmpW ((f2 pv) - ((f2 pv) / (100 : Int64)) * (100 : Int64)) (0 : Int64)))])) _
        refine XS.ifNo X16.here hx rfl (hb hby at_64) rfl ((if0 _ _).trans (teq ((lw_eq ((f2 pv) - ((f2 pv) / (100 : Int64)) * (100 : Int64)) (0 : Int64)).mpr ((hl.2 c17).2.2.2 c18).1)).2) ?_
        show Steps p.tables e below (T16.setTop (mkF m 67 #[.val (.long xv), .second, .val (.int kv), .val (.long pv), .second, .val (.long (f2 pv)), .second, .unset, .unset, .unset] [])) _
        refine XS.iconst X16.here hx rfl (hb hby at_67) ?_
        show Steps p.tables e below (T16.setTop (mkF m 68 #[.val (.long xv), .second, .val (.int kv), .val (.long pv), .second, .val (.long (f2 pv)), .second, .unset, .unset, .unset] [(.int (1 : Int32))])) _
        refine XS.goto X16.here hx rfl (pc0 := 68) (pc' := 72) rfl (hb hby at_68) (by decide) (by decide) ?_
        show Steps p.tables e below (T16.setTop (mkF m 72 #[.val (.long xv), .second, .val (.int kv), .val (.long pv), .second, .val (.long (f2 pv)), .second, .unset, .unset, .unset] [(.int (1 : Int32))])) _
        refine XS.istore X16.here hx rfl (hb hby at_72) rfl (l' := #[.val (.long xv), .second, .val (.int kv), .val (.long pv), .second, .val (.long (f2 pv)), .second, .val (.int (1 : Int32)), .unset, .unset]) rfl ?_
        show Steps p.tables e below (T16.setTop (mkF m 74 #[.val (.long xv), .second, .val (.int kv), .val (.long pv), .second, .val (.long (f2 pv)), .second, .val (.int (1 : Int32)), .unset, .unset] [])) _
        refine XS.iload X16.here hx rfl (hb hby at_74) rfl ?_
        show Steps p.tables e below (T16.setTop (mkF m 76 #[.val (.long xv), .second, .val (.int kv), .val (.long pv), .second, .val (.long (f2 pv)), .second, .val (.int (1 : Int32)), .unset, .unset] [(.int (1 : Int32))])) _
        refine XS.ifYes X16.here hx rfl (pc0 := 76) (pc' := 81) rfl (hb hby at_76) rfl ((if0 _ _).trans (feq (by decide : ¬ ((1 : Int32) = (0 : Int32)))).2) (by decide) (by decide) ?_
        show Steps p.tables e below (T16.setTop (mkF m 81 #[.val (.long xv), .second, .val (.int kv), .val (.long pv), .second, .val (.long (f2 pv)), .second, .val (.int (1 : Int32)), .unset, .unset] [])) _
        refine XS.lload X16.here hx rfl (hb hby at_81) rfl ?_
        show Steps p.tables e below (T16.setTop (mkF m 83 #[.val (.long xv), .second, .val (.int kv), .val (.long pv), .second, .val (.long (f2 pv)), .second, .val (.int (1 : Int32)), .unset, .unset] [(.long (f2 pv))])) _
        refine X16.ldc2Long hx hown (mvT hZ (hw _ (List.mem_of_getElem? (i := 10) rfl))) (g := (mkF m 83 #[.val (.long xv), .second, .val (.int kv), .val (.long pv), .second, .val (.long (f2 pv)), .second, .val (.int (1 : Int32)), .unset, .unset] [(.long (f2 pv))])) rfl (hb hby at_83) _ ?_
        show Steps p.tables e below (T16.setTop (mkF m 86 #[.val (.long xv), .second, .val (.int kv), .val (.long pv), .second, .val (.long (f2 pv)), .second, .val (.int (1 : Int32)), .unset, .unset] [(.long (10000 : Int64)), (.long (f2 pv))])) _
        refine XS.lcmp X16.here hx rfl (hb hby at_86) rfl ?_
        show Steps p.tables e below (T16.setTop (mkF m 87 #[.val (.long xv), .second, .val (.int kv), .val (.long pv), .second, .val (.long (f2 pv)), .second, .val (.int (1 : Int32)), .unset, .unset] [(.int (lcmpW (f2 pv) (10000 : Int64)))])) _
        refine XS.ifYes X16.here hx rfl (pc0 := 87) (pc' := 94) rfl (hb hby at_87) rfl ((if0 _ _).trans (flt (fun q => c18 ((lw_lt (f2 pv) (10000 : Int64)).mp q))).2.1) (by decide) (by decide) ?_
        show Steps p.tables e below (T16.setTop (mkF m 94 #[.val (.long xv), .second, .val (.int kv), .val (.long pv), .second, .val (.long (f2 pv)), .second, .val (.int (1 : Int32)), .unset, .unset] [])) _
        refine X16.ldc2Long hx hown (mvT hZ (hw _ (List.mem_of_getElem? (i := 14) rfl))) (g := (mkF m 94 #[.val (.long xv), .second, .val (.int kv), .val (.long pv), .second, .val (.long (f2 pv)), .second, .val (.int (1 : Int32)), .unset, .unset] [])) rfl (hb hby at_94) _ ?_
        show Steps p.tables e below (T16.setTop (mkF m 97 #[.val (.long xv), .second, .val (.int kv), .val (.long pv), .second, .val (.long (f2 pv)), .second, .val (.int (1 : Int32)), .unset, .unset] [(.long (100 : Int64))])) _
        refine XS.lstore X16.here hx rfl (hb hby at_97) rfl (l' := #[.val (.long xv), .second, .val (.int kv), .val (.long pv), .second, .val (.long (f2 pv)), .second, .val (.int (1 : Int32)), .val (.long (100 : Int64)), .second]) rfl ?_
        show Steps p.tables e below (T16.setTop (mkF m 99 #[.val (.long xv), .second, .val (.int kv), .val (.long pv), .second, .val (.long (f2 pv)), .second, .val (.int (1 : Int32)), .val (.long (100 : Int64)), .second] [])) _
        refine XS.lloadN X16.here hx rfl (hb hby at_99) rfl ?_
        show Steps p.tables e below (T16.setTop (mkF m 100 #[.val (.long xv), .second, .val (.int kv), .val (.long pv), .second, .val (.long (f2 pv)), .second, .val (.int (1 : Int32)), .val (.long (100 : Int64)), .second] [(.long pv)])) _
        refine XS.lload X16.here hx rfl (hb hby at_100) rfl ?_
        show Steps p.tables e below (T16.setTop (mkF m 102 #[.val (.long xv), .second, .val (.int kv), .val (.long pv), .second, .val (.long (f2 pv)), .second, .val (.int (1 : Int32)), .val (.long (100 : Int64)), .second] [(.long (f2 pv)), (.long pv)])) _
        refine XS.lsub X16.here hx rfl (hb hby at_102) rfl ?_
        show Steps p.tables e below (T16.setTop (mkF m 103 #[.val (.long xv), .second, .val (.int kv), .val (.long pv), .second, .val (.long (f2 pv)), .second, .val (.int (1 : Int32)), .val (.long (100 : Int64)), .second] [(.long (pv - (f2 pv)))])) _
        refine XS.lload X16.here hx rfl (hb hby at_103) rfl ?_
        show Steps p.tables e below (T16.setTop (mkF m 105 #[.val (.long xv), .second, .val (.int kv), .val (.long pv), .second, .val (.long (f2 pv)), .second, .val (.int (1 : Int32)), .val (.long (100 : Int64)), .second] [(.long (100 : Int64)), (.long (pv - (f2 pv)))])) _
        refine XS.lcmp X16.here hx rfl (hb hby at_105) rfl ?_
        show Steps p.tables e below (T16.setTop (mkF m 106 #[.val (.long xv), .second, .val (.int kv), .val (.long pv), .second, .val (.long (f2 pv)), .second, .val (.int (1 : Int32)), .val (.long (100 : Int64)), .second] [(.int (lcmpW (pv - (f2 pv)) (100 : Int64)))])) _
        refine XS.ifNo X16.here hx rfl (hb hby at_106) rfl ((if0 _ _).trans (flt (fun q => ((hl.2 c17).2.2.2 c18).2 ((lw_gt (pv - (f2 pv)) (100 : Int64)).mp q))).2.2.1) ?_
        show Steps p.tables e below (T16.setTop (mkF m 109 #[.val (.long xv), .second, .val (.int kv), .val (.long pv), .second, .val (.long (f2 pv)), .second, .val (.int (1 : Int32)), .val (.long (100 : Int64)), .second] [])) _
        refine XS.iconst X16.here hx rfl (hb hby at_109) ?_
        show Steps p.tables e below (T16.setTop (mkF m 110 #[.val (.long xv), .second, .val (.int kv), .val (.long pv), .second, .val (.long (f2 pv)), .second, .val (.int (1 : Int32)), .val (.long (100 : Int64)), .second] [(.int (1 : Int32))])) _
        refine XS.goto X16.here hx rfl (pc0 := 110) (pc' := 114) rfl (hb hby at_110) (by decide) (by decide) ?_
        show Steps p.tables e below (T16.setTop (mkF m 114 #[.val (.long xv), .second, .val (.int kv), .val (.long pv), .second, .val (.long (f2 pv)), .second, .val (.int (1 : Int32)), .val (.long (100 : Int64)), .second] [(.int (1 : Int32))])) _
        exact retN X16 hx (t := .boolean) Bd.returns (by simp) (hb hby at_114) hr
    · refine XS.ifNo X16.here hx rfl (hb hby at_15) rfl ((if0 _ _).trans (flt (fun q => c17 ((lw_gt pv (1 : Int64)).mp q))).2.2.1) ?_
      show Steps p.tables e below (T16.setTop (mkF m 18 #[.val (.long xv), .second, .val (.int kv), .val (.long pv), .second, .val (.long (f2 pv)), .second, .unset, .unset, .unset] [])) _
      refine XS.lload X16.here hx rfl (hb hby at_18) rfl ?_
      show Steps p.tables e below (T16.setTop (mkF m 20 #[.val (.long xv), .second, .val (.int kv), .val (.long pv), .second, .val (.long (f2 pv)), .second, .unset, .unset, .unset] [(.long (f2 pv))])) _
      refine XS.lconst X16.here hx rfl (hb hby at_20) ?_
      show Steps p.tables e below (T16.setTop (mkF m 21 #[.val (.long xv), .second, .val (.int kv), .val (.long pv), .second, .val (.long (f2 pv)), .second, .unset, .unset, .unset] [(.long (0 : Int64)), (.long (f2 pv))])) _
      refine XS.lcmp X16.here hx rfl (hb hby at_21) rfl ?_
      show Steps p.tables e below (T16.setTop (mkF m 22 #[.val (.long xv), .second, .val (.int kv), .val (.long pv), .second, .val (.long (f2 pv)), .second, .unset, .unset, .unset] [(.int (lcmpW (f2 pv) (0 : Int64)))])) _
      refine XS.ifNo X16.here hx rfl (hb hby at_22) rfl ((if0 _ _).trans (teq ((lw_eq (f2 pv) (0 : Int64)).mpr (hl.1 c17))).2) ?_
      show Steps p.tables e below (T16.setTop (mkF m 25 #[.val (.long xv), .second, .val (.int kv), .val (.long pv), .second, .val (.long (f2 pv)), .second, .unset, .unset, .unset] [])) _
      refine XS.iconst X16.here hx rfl (hb hby at_25) ?_
      show Steps p.tables e below (T16.setTop (mkF m 26 #[.val (.long xv), .second, .val (.int kv), .val (.long pv), .second, .val (.long (f2 pv)), .second, .unset, .unset, .unset] [(.int (1 : Int32))])) _
      refine XS.goto X16.here hx rfl (pc0 := 26) (pc' := 30) rfl (hb hby at_26) (by decide) (by decide) ?_
      show Steps p.tables e below (T16.setTop (mkF m 30 #[.val (.long xv), .second, .val (.int kv), .val (.long pv), .second, .val (.long (f2 pv)), .second, .unset, .unset, .unset] [(.int (1 : Int32))])) _
      exact retN X16 hx (t := .boolean) Bd.returns (by simp) (hb hby at_30) hr
  · show Q0 xv kv h0 n0 _ T16.heap _
    exact ⟨rfl, N16⟩
set_option maxRecDepth 65536 in
set_option maxHeartbeats 40000000 in
theorem comes_1 {Post : Tables → Env → Array Value → State → Outcome → State → Prop} (hpost : ∀ tb e args s v u, (limb_1_1.after args s (.returned v) u = true ∧ limb_1_2.after args s (.returned v) u = true ∧ True) → FrameEnd s (.returned v) u (Jvm.fieldLocs frame_1_writes args s ++ Jvm.arrayLocs frame_1_arrays args s ++ Jvm.staticLocs frame_1_statics s) 0 0 → Post tb e args s (.returned v) u) :
    ArmFor flags0 classFile x code maxLocals ret World_1 tables_1 room_1 Calls_1 rest_1 Pre_1 Post := by
  intro l hfl _ _ p e ha hc hk s m args below hf hA hF happ hP
  obtain ⟨hcalls, hrest, hpre⟩ := hP
  obtain ⟨-, -, -, hnamed, -, -, -, hat⟩ := (Spec.applies_iff hf).mp happ
  obtain ⟨hg, hn⟩ := and_e (Cond.before_iff.mp (show (Jvm.Cond.and given_1 narrow_1).before args s = true from hpre))
  obtain ⟨ga0, gb0⟩ := and_e hg
  obtain ⟨ga1, gb1⟩ := and_e gb0
  obtain ⟨w0, w1, rfl⟩ : ∃ w0 w1 : Value, args = #[w0, w1] := by
    have hs : args.size = 2 := by simpa [Cond.value, given_1] using ga0
    obtain ⟨L⟩ := args
    match L, hs with
    | [w0, w1], _ => exact ⟨w0, w1, rfl⟩
  have hw := fun d (hd : d ∈ tables_1) => atoms_spec (ws := Jvm.Cond.code x code maxLocals ret :: tables_1) hat d (List.mem_cons_of_mem _ hd)
  have hfit : Fit s := fun {y c} hc i hi => by
    obtain ⟨ha, rfl⟩ := Array.getElem?_eq_some_iff.mp hc
    have q := List.all_eq_true.mp ((Array.all_eq_true_iff_forall_mem.mp hF) _ (Array.getElem_mem ha)) i (List.mem_range.mpr hi)
    simpa [Array.getElem?_eq_getElem hi] using q
  obtain ⟨i0, ei0⟩ := isL_v ga1
  obtain rfl : w0 = (.long i0) := Option.some.inj ei0
  obtain ⟨i1, ei1⟩ := is_v gb1
  obtain rfl : w1 = (.int i1) := Option.some.inj ei1
  obtain ⟨n, o, h1, h2, h3, _, L, rfl, ⟨rfl, N⟩, hq⟩ := rm0 l s _ hw tables_1 i0 i1  s.heap s.heap.size (Nat.le_refl _)  p e ha hc hk s m _ below hf ((Spec.applies_iff_loose hf).mp happ).1 ⟨rfl, State.Warmed39.refl s, rfl⟩ trivial
  refine ⟨n, _, h1, h2, h3, hpost _ _ _ _ _ _ ⟨Cond.after_iff.mpr rfl, Cond.after_iff.mpr (eq_i res_at (Term.int_eval (1)) rfl), trivial⟩ ⟨hq.1, hq.2.1, (hq.2.2.sift fun y hy => Or.inr (N y hy)).mono (by decide) (by decide)⟩⟩
theorem main_1_1 : Claimed_1_1 := comes_1 fun _ _ _ _ _ _ h hF => ⟨h.1, hF⟩
theorem main_1_2 : Claimed_1_2 := comes_1 fun _ _ _ _ _ _ h hF => ⟨h.2.1, hF⟩
end Jvm.Pilot.@@N@@
namespace Jvm.Pilot.@@N@@
open Jvm Jvm.ClassFile Sem Op Lib Jvm.Free Jvm.Stand Jvm.Pilot.@@N@@.Jvm.D
/-! MADE BY PROGRAM (witnessworld.py) out of the Statement's table words and the real class files: 9 classes; the members and pool entries that the words name. The judged class is class 1, her method 2. -/
namespace start1
open Jvm.ClassFile
def u (s : String) : CpInfo := .utf8 (stringToUtf16 s)
/-- a pool by its gaps: so many unusable entries, then the entry; so many at the end -/
def gap : Nat → List CpInfo → List CpInfo
  | 0, r => r
  | n + 1, r => .unusable :: gap n r
def poolList (es : List (Nat × CpInfo)) (last : Nat) : List CpInfo := es.foldr (fun e r => gap e.1 (e.2 :: r)) (gap last [])
def pool (es : List (Nat × CpInfo)) (last : Nat) : Array CpInfo := ⟨poolList es last⟩
def fileOf (pool : Array CpInfo) (this : Nat) (attrs : Array Attribute := #[]) (ms : Array MethodInfo := #[]) (fl : Nat := 33) (sup : Nat := 0) (ifs : Array Nat := #[]) (fds : Array FieldInfo := #[]) : ClassFile where
  minorVersion := 0
  majorVersion := 65
  constantPool := pool
  accessFlags := fl
  thisClass := this
  superClass := sup
  interfaces := ifs
  fields := fds
  methods := ms
  attributes := attrs
def plain (name : String) (sup : Option ClassId) : Class where
  name := name
  kind := .ordinary
  loader := none
  accessFlags := 33
  super := sup
  interfaces := #[]
  cf := none
  fields := #[]
  methods := #[]
  instanceTypes := #[]
  staticTypes := #[]
  resolved := #[]
  callSites := []
  init := .initialized
  statics := none
  mirror := none

def pool0 : Array CpInfo := pool [(5, u "<init>"), (0, u "()V"), (1, .class_ 10), (1, u "java/lang/Object")] 113

def k0m0 : Method := { name := "<init>", desc := "()V", sig := { parameters := [], returnType := none }, accessFlags := 1, code := none }
/-- java/lang/Object -/
def k0 : Class := { plain "java/lang/Object" none with
  accessFlags := 33
  interfaces := #[]
  cf := some (fileOf pool0 8 #[] #[{ accessFlags := 1, nameIndex := 5, descriptorIndex := 6, attributes := #[] }] 33 0 #[] #[])
  fields := #[]
  methods := #[k0m0]
  instanceTypes := #[]
  staticTypes := #[]
  resolved := Array.replicate 124 none
  statics := none }

def pool1 : Array CpInfo := pool [(2, .class_ 4), (1, u "java/lang/Object"), (0, u "<init>"), (0, u "()V"), (0, .long 10000), (1, .long 200), (1, .long 4), (3, .long 9223372036854775807), (1, .long 255), (1, .methodref 20 21), (0, .class_ 22), (0, .nameAndType 23 24), (0, u "com/example/tidebook/tidebook/book/PriceBelowPinLaw"), (0, u "pick"), (0, u "(JI)J"), (0, .methodref 26 27), (0, .class_ 28), (0, .nameAndType 29 30), (0, u "com/example/tidebook/tidebook/book/Price"), (0, u "below"), (0, u "(J)J"), (0, .long 100), (4, u "law"), (0, u "(JI)Z")] 2

def k1m0 : Method := { name := "<init>", desc := "()V", sig := { parameters := [], returnType := none }, accessFlags := 2, code := none }
def k1c1 : Code := { maxStack := 6, maxLocals := 4, code := method_2_code, exceptionTable := #[], attributes := #[] }
def k1m1 : Method := { name := "pick", desc := "(JI)J", sig := { parameters := [.long, .int], returnType := some .long }, accessFlags := 10, code := some k1c1 }
def k1c2 : Code := { maxStack := 4, maxLocals := 10, code := code, exceptionTable := #[], attributes := #[] }
def k1m2 : Method := { name := "law", desc := "(JI)Z", sig := { parameters := [.long, .int], returnType := some .boolean }, accessFlags := 9, code := some k1c2 }
/-- com/example/tidebook/tidebook/book/PriceBelowPinLaw -/
def k1 : Class := { plain "com/example/tidebook/tidebook/book/PriceBelowPinLaw" (some 0) with
  accessFlags := 49
  interfaces := #[]
  cf := some (fileOf pool1 20 #[] #[{ accessFlags := 2, nameIndex := 5, descriptorIndex := 6, attributes := #[] }, { accessFlags := 10, nameIndex := 23, descriptorIndex := 24, attributes := #[] }, { accessFlags := 9, nameIndex := 36, descriptorIndex := 37, attributes := #[] }] 49 2 #[] #[])
  fields := #[]
  methods := #[k1m0, k1m1, k1m2]
  instanceTypes := #[]
  staticTypes := #[]
  resolved := Array.replicate 40 none
  statics := none }

def pool2 : Array CpInfo := pool [(2, .class_ 4), (1, u "java/lang/Object"), (0, u "<init>"), (0, u "()V"), (16, .class_ 25), (1, u "com/example/tidebook/tidebook/book/Price"), (40, .long 10000), (1, .long 100), (25, u "DOLLAR"), (0, u "J"), (1, u "CENT"), (0, u "PLACES"), (0, u "I"), (1, u "NONE"), (8, u "below"), (0, u "(J)J")] 25

def k2m0 : Method := { name := "<init>", desc := "()V", sig := { parameters := [], returnType := none }, accessFlags := 2, code := none }
def k2c1 : Code := { maxStack := 4, maxLocals := 2, code := prog_9_method_4_code, exceptionTable := #[], attributes := #[] }
def k2m1 : Method := { name := "below", desc := "(J)J", sig := { parameters := [.long], returnType := some .long }, accessFlags := 8, code := some k2c1 }
/-- com/example/tidebook/tidebook/book/Price -/
def k2 : Class := { plain "com/example/tidebook/tidebook/book/Price" (some 0) with
  accessFlags := 49
  interfaces := #[]
  cf := some (fileOf pool2 23 #[] #[{ accessFlags := 2, nameIndex := 5, descriptorIndex := 6, attributes := #[] }, { accessFlags := 8, nameIndex := 110, descriptorIndex := 111, attributes := #[] }] 49 2 #[] #[{ accessFlags := 26, nameIndex := 94, descriptorIndex := 95, attributes := #[] }, { accessFlags := 26, nameIndex := 97, descriptorIndex := 95, attributes := #[] }, { accessFlags := 25, nameIndex := 98, descriptorIndex := 99, attributes := #[] }, { accessFlags := 25, nameIndex := 101, descriptorIndex := 95, attributes := #[] }])
  fields := #[{ name := "DOLLAR", type := .long, accessFlags := 26, slot := 0, constantValue := 0 }, { name := "CENT", type := .long, accessFlags := 26, slot := 1, constantValue := 0 }, { name := "PLACES", type := .int, accessFlags := 25, slot := 2, constantValue := 0 }, { name := "NONE", type := .long, accessFlags := 25, slot := 3, constantValue := 0 }]
  methods := #[k2m0, k2m1]
  instanceTypes := #[]
  staticTypes := #[.long, .long, .int, .long]
  resolved := Array.replicate 137 none
  statics := none }

def pool3 : Array CpInfo := pool [(1, u "java/lang/Cloneable"), (0, .class_ 1), (0, u "java/lang/Object"), (0, .class_ 3)] 3

/-- java/lang/Cloneable -/
def k3 : Class := { plain "java/lang/Cloneable" (some 0) with
  accessFlags := 1537
  interfaces := #[]
  cf := some (fileOf pool3 2 #[] #[] 1537 4 #[] #[])
  fields := #[]
  methods := #[]
  instanceTypes := #[]
  staticTypes := #[]
  resolved := Array.replicate 8 none
  statics := none }

def pool4 : Array CpInfo := pool [(1, u "java/io/Serializable"), (0, .class_ 1), (0, u "java/lang/Object"), (0, .class_ 3)] 3

/-- java/io/Serializable -/
def k4 : Class := { plain "java/io/Serializable" (some 0) with
  accessFlags := 1537
  interfaces := #[]
  cf := some (fileOf pool4 2 #[] #[] 1537 4 #[] #[])
  fields := #[]
  methods := #[]
  instanceTypes := #[]
  staticTypes := #[]
  resolved := Array.replicate 8 none
  statics := none }

/-- the primitive byte -/
def k5 : Class := { plain "byte" none with kind := .primitive 'B', accessFlags := 0x411 }
/-- [B -/
def k6 : Class := { plain "[B" (some 0) with kind := .array 5 .byte, interfaces := #[3, 4], accessFlags := 1041 }

/-- the primitive int -/
def k7 : Class := { plain "int" none with kind := .primitive 'I', accessFlags := 0x411 }
/-- [I -/
def k8 : Class := { plain "[I" (some 0) with kind := .array 7 .int, interfaces := #[3, 4], accessFlags := 1041 }

def heap : Heap := #[]
def classes : Array Class := #[k0, k1, k2, k3, k4, k5, k6, k7, k8]
def interned : List (Array UInt16 × Addr) := []
def slotsUsed : Nat := 0
def theMethod : MethodId := ⟨1, 2⟩
def args0 : Array Value := #[.long 5, .int 3]
def aboutOver (below : List Frame) : State where
  vm := { classes := classes, interned := interned.toArray }
  heap := heap
  slotsUsed := slotsUsed
  threads := #[{ frames := .invoking theMethod args0 :: below }]
def below0 : List Frame := [.native { method := ⟨0, 0⟩, args := #[] }]
def about1 : State := aboutOver below0
def p0 : Program := .bare "" "" ""
def e0 : Env := launch0.env 0 0 0
theorem w_frames : about1.frames = Frame.invoking theMethod args0 :: below0 := rfl
set_option maxRecDepth 65536 in
theorem w_args : argsFit about1.vm theMethod args0 = true := by decide +kernel
set_option maxRecDepth 65536 in
theorem w_heap : heapFits about1 = true := by decide +kernel
set_option maxRecDepth 65536 in
theorem w_runnable : about1.curStatus? = some .runnable := by decide +kernel
set_option maxRecDepth 65536 in
theorem w_alone : about1.alone = true := by decide +kernel
set_option maxRecDepth 65536 in
theorem w_named : about1.methodNamed? x = some theMethod := by decide +kernel
set_option maxRecDepth 65536 in
theorem w_hears : about1.hears theMethod below0 = true := by decide +kernel
set_option maxRecDepth 65536 in
theorem w_ripe : about1.ripe theMethod args0 below0 = true := by decide +kernel
theorem w_running : about1.status = .running := rfl
set_option maxRecDepth 65536 in
theorem w_room : about1.hasRoom e0.platform room_1 = true :=
  launch0.hasRoom_least _ room_1 (by decide +kernel) (by decide +kernel) (by decide +kernel) (by decide +kernel) (by decide +kernel) (by decide +kernel)
theorem allAtoms_all (ts : List Jvm.Cond) (a : Array Jvm.Value) (st : Jvm.State) : (allAtoms ts).before a st = ts.all (fun c => c.before a st) := by
  induction ts with
  | nil => rfl
  | cons c t ih =>
    show (Jvm.Cond.and c (allAtoms t)).before a st = _
    rw [Jvm.Cond.before_and, ih, List.all_cons]
def words1 : List Jvm.Cond := Jvm.Cond.code x code maxLocals ret :: tables_1
/-- a 'code' word, met by the world's own term for the bytes: nothing is compared byte by byte -/
theorem code_word {y : MethodName} {bytes : ByteArray} {mx : Nat} {rt : Option FieldType} {a : Array Value} {s : State} {m : MethodId} {meth : Method} {c : Code} (h1 : s.methodNamed? y = some m) (h2 : s.vm.method? m = some meth) (h3 : meth.code = some c) (h4 : c.code = bytes)
    (h5 : (c.maxLocals == mx && c.exceptionTable.isEmpty && decide (c.maxStack ≤ mostOperands) && decide (meth.sig.returnType = rt) && !meth.locks && decide (parseMethodDescriptor y.desc = some meth.sig)) = true) : (Jvm.Cond.code y bytes mx rt).before a s = true := by
  simp only [Bool.and_eq_true, beq_iff_eq, Bool.not_eq_true', decide_eq_true_eq] at h5
  obtain ⟨⟨⟨⟨⟨g1, g2⟩, g3⟩, g4⟩, g5⟩, g6⟩ := h5
  simp [Cond.before, Cond.holds, Cond.value, h1, h2, h3, h4, g1, g2, g3, g4, g5, g6]
def isCode : Jvm.Cond → Bool
  | .code _ _ _ _ => true
  | _ => false
theorem all_split {L : List Jvm.Cond} {P : Jvm.Cond → Bool} (h1 : L.all (fun c => isCode c || P c) = true) (h2 : ∀ c ∈ L.filter isCode, P c = true) : L.all P = true := by
  refine List.all_eq_true.mpr fun c hc => ?_
  have h := List.all_eq_true.mp h1 c hc
  rcases Bool.eq_false_or_eq_true (isCode c) with hi | hi
  · exact h2 c (List.mem_filter.mpr ⟨hc, hi⟩)
  · simpa [hi] using h
set_option maxRecDepth 65536 in
theorem w_c0 : (Jvm.Cond.code x code maxLocals ret).before args0 about1 = true := code_word (m := ⟨1, 2⟩) (meth := k1m2) (c := k1c2) (by decide +kernel) rfl rfl rfl (by decide +kernel)
set_option maxRecDepth 65536 in
theorem w_c1 : (Jvm.Cond.code ({ cls := "com/example/tidebook/tidebook/book/PriceBelowPinLaw", name := "pick", desc := "(JI)J" } : Jvm.MethodName) method_2_code (4 : Nat) (Option.some Jvm.ClassFile.FieldType.long)).before args0 about1 = true := code_word (m := ⟨1, 1⟩) (meth := k1m1) (c := k1c1) (by decide +kernel) rfl rfl rfl (by decide +kernel)
set_option maxRecDepth 65536 in
theorem w_c2 : (Jvm.Cond.code ({ cls := "com/example/tidebook/tidebook/book/Price", name := "below", desc := "(J)J" } : Jvm.MethodName) prog_9_method_4_code (2 : Nat) (Option.some Jvm.ClassFile.FieldType.long)).before args0 about1 = true := code_word (m := ⟨2, 1⟩) (meth := k2m1) (c := k2c1) (by decide +kernel) rfl rfl rfl (by decide +kernel)
def codes1 : List Jvm.Cond := [Jvm.Cond.code x code maxLocals ret, Jvm.Cond.code ({ cls := "com/example/tidebook/tidebook/book/PriceBelowPinLaw", name := "pick", desc := "(JI)J" } : Jvm.MethodName) method_2_code (4 : Nat) (Option.some Jvm.ClassFile.FieldType.long), Jvm.Cond.code ({ cls := "com/example/tidebook/tidebook/book/Price", name := "below", desc := "(J)J" } : Jvm.MethodName) prog_9_method_4_code (2 : Nat) (Option.some Jvm.ClassFile.FieldType.long)]
set_option maxRecDepth 65536 in
theorem codes_eq : words1.filter isCode = codes1 := rfl
theorem w_codes : ∀ c ∈ words1.filter isCode, c.before args0 about1 = true := by
  rw [codes_eq]
  intro c hc
  simp only [codes1, List.mem_cons, List.not_mem_nil, or_false] at hc
  rcases hc with rfl | rfl | rfl
  · exact w_c0
  · exact w_c1
  · exact w_c2
set_option maxRecDepth 65536 in
theorem w_t1 : words1.all (fun c => isCode c || c.before args0 about1) = true := by decide +kernel
theorem w_tables : (allAtoms (Jvm.Cond.code x code maxLocals ret :: tables_1)).before args0 about1 = true := by
  rw [allAtoms_all]
  show words1.all (fun c => c.before args0 about1) = true
  refine all_split ?_ w_codes
  rw [w_t1]
set_option maxRecDepth 65536 in
theorem w_case : (Jvm.Cond.and given_1 narrow_1).before args0 about1 = true := by decide +kernel
theorem w_applies : (headSpec (Jvm.Cond.code x code maxLocals ret :: tables_1) room_1).applies x e0.platform about1 = true :=
  (Spec.applies_iff w_frames).mpr ⟨w_running, w_runnable, w_alone, w_named, w_hears, w_ripe, w_room, w_tables⟩
theorem atStart : AtStart classFile x code maxLocals ret World_1 tables_1 room_1 Calls_1 rest_1 Pre_1 launch0 p0 e0 about1 theMethod args0 below0 :=
  ⟨lists_1, trivial, launch0.admits_env _ _ _, launch0.least_env, fairChoices_fair.cas, fairChoices_fair.clock, w_frames, w_args, w_heap, w_applies, trivial, trivial, w_case⟩
end start1
theorem witness_1 : WitnessClaimed_1 := ⟨start1.p0, start1.e0, start1.about1, start1.theMethod, start1.args0, start1.below0, start1.atStart⟩
end Jvm.Pilot.@@N@@

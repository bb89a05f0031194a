import JvmDerived
import JvmDerived.Pilot.@@N@@Statement
import JvmDerived.Pilot.@@N@@Code
set_option linter.unusedVariables false
set_option linter.unusedSimpArgs false
@@BLOCK:NumsL.lean.txt@@
namespace Jvm.RoadKit
open Sem ClassFile Op Lib Jvm.Stand Jvm.Free Jvm.LawKit
section New
variable {p : Program} {l : Launch} {e : Env} {R : Room} {s : State} {m : MethodId} {args : Array Value} {below : List Frame} {meth : Method} {c : Code} {T : State} {locs : List Loc} {cells slots : Nat}
theorem retI (X : Stand p l e R s m args below meth c T locs cells slots) (hx : p.tables.exec = Jvm.exec) {pc : Nat} {Ls : Array Slot} {z : Int32} {rest : List Value} (hret : meth.sig.returnType = some .int) (hd : decode c.code pc = .ok (.ireturn, 1)) {fs : List Frame}
    (hl : ∀ (f : JFrame) (acts : List Action), f.method = m → f.locked = none → f.entered = [] → (doReturn e (T.setTop f) acts (some (.int z))).1 = T.setFrames fs) : Steps p.tables e below (T.setTop (mkF m pc Ls (.int z :: rest))) (T.setFrames fs) := by
  have hm' : T.vm.method? m = some meth := X.method'
  have hn : narrow .int (.int z) = .int z := rfl
  show Steps p.tables e below (T.setTop { method := m, pc := pc, locals := Ls, stack := _ :: rest, locked := none }) _
  jvm_step X.here [X.here.top, hx, hd, hm', hret, hn]
  first | (intro acts; rw [hl _ acts rfl rfl rfl]) | rw [hl _ _ rfl rfl rfl]
  exact Steps.refl _
end New
end Jvm.RoadKit
namespace Jvm.Pilot.@@N@@
open Jvm Jvm.ClassFile Sem Op Lib Jvm.Free Jvm.Stand Jvm.LawKit Jvm.RoadKit Bundle Jvm.Pilot.@@N@@.Jvm.D
theorem d1_0 : decode method_3_code 0 = .ok (.iload_n 3, 1) := by decide +kernel
theorem d1_1 : decode method_3_code 1 = .ok (.iconst 1, 1) := by decide +kernel
theorem d1_2 : decode method_3_code 2 = .ok (.if_icmp .ne 5, 3) := by decide +kernel
theorem d1_5 : decode method_3_code 5 = .ok (.iload_n 0, 1) := by decide +kernel
theorem d1_6 : decode method_3_code 6 = .ok (.ireturn, 1) := by decide +kernel
theorem d1_7 : decode method_3_code 7 = .ok (.iload_n 3, 1) := by decide +kernel
theorem d1_8 : decode method_3_code 8 = .ok (.iconst 2, 1) := by decide +kernel
theorem d1_9 : decode method_3_code 9 = .ok (.if_icmp .ne 5, 3) := by decide +kernel
theorem d1_12 : decode method_3_code 12 = .ok (.iload_n 1, 1) := by decide +kernel
theorem d1_13 : decode method_3_code 13 = .ok (.ireturn, 1) := by decide +kernel
theorem d1_14 : decode method_3_code 14 = .ok (.iload_n 3, 1) := by decide +kernel
theorem d1_15 : decode method_3_code 15 = .ok (.iconst 3, 1) := by decide +kernel
theorem d1_16 : decode method_3_code 16 = .ok (.if_icmp .ne 7, 3) := by decide +kernel
theorem d1_19 : decode method_3_code 19 = .ok (.iload_n 0, 1) := by decide +kernel
theorem d1_20 : decode method_3_code 20 = .ok (.iconst 1, 1) := by decide +kernel
theorem d1_21 : decode method_3_code 21 = .ok (.isub, 1) := by decide +kernel
theorem d1_22 : decode method_3_code 22 = .ok (.ireturn, 1) := by decide +kernel
theorem d1_23 : decode method_3_code 23 = .ok (.iload_n 3, 1) := by decide +kernel
theorem d1_24 : decode method_3_code 24 = .ok (.iconst 4, 1) := by decide +kernel
theorem d1_25 : decode method_3_code 25 = .ok (.if_icmp .ne 7, 3) := by decide +kernel
theorem d1_28 : decode method_3_code 28 = .ok (.iload_n 1, 1) := by decide +kernel
theorem d1_29 : decode method_3_code 29 = .ok (.iconst 1, 1) := by decide +kernel
theorem d1_30 : decode method_3_code 30 = .ok (.isub, 1) := by decide +kernel
theorem d1_31 : decode method_3_code 31 = .ok (.ireturn, 1) := by decide +kernel
theorem d1_32 : decode method_3_code 32 = .ok (.iload_n 3, 1) := by decide +kernel
theorem d1_33 : decode method_3_code 33 = .ok (.iconst 5, 1) := by decide +kernel
theorem d1_34 : decode method_3_code 34 = .ok (.if_icmp .ne 7, 3) := by decide +kernel
theorem d1_37 : decode method_3_code 37 = .ok (.iload_n 0, 1) := by decide +kernel
theorem d1_38 : decode method_3_code 38 = .ok (.iconst 1, 1) := by decide +kernel
theorem d1_39 : decode method_3_code 39 = .ok (.iadd, 1) := by decide +kernel
theorem d1_40 : decode method_3_code 40 = .ok (.ireturn, 1) := by decide +kernel
theorem d1_41 : decode method_3_code 41 = .ok (.iload_n 3, 1) := by decide +kernel
theorem d1_42 : decode method_3_code 42 = .ok (.bipush 6, 2) := by decide +kernel
theorem d1_44 : decode method_3_code 44 = .ok (.if_icmp .ne 7, 3) := by decide +kernel
theorem d1_47 : decode method_3_code 47 = .ok (.iload_n 1, 1) := by decide +kernel
theorem d1_48 : decode method_3_code 48 = .ok (.iconst 1, 1) := by decide +kernel
theorem d1_49 : decode method_3_code 49 = .ok (.iadd, 1) := by decide +kernel
theorem d1_50 : decode method_3_code 50 = .ok (.ireturn, 1) := by decide +kernel
theorem d1_51 : decode method_3_code 51 = .ok (.iload_n 2, 1) := by decide +kernel
theorem d1_52 : decode method_3_code 52 = .ok (.ireturn, 1) := by decide +kernel
theorem pn_1 : plainName "com/example/tideway/tideway/ReplanCoversPinLaw" = true := by first | (simp [plainName, overriddenIn]; done) | decide +kernel
theorem pd_0 : parseMethodDescriptor "(IIII)I" = some ⟨[.int, .int, .int, .int], some .int⟩ := by decide +kernel
theorem pd_1 : parseMethodDescriptor "(Lcom/example/tideway/tideway/Request$Transfer;Ljava/util/List;II)V" = some ⟨[(.object "com/example/tideway/tideway/Request$Transfer"), (.object "java/util/List"), .int, .int], none⟩ := by decide +kernel
theorem pd_2 : parseMethodDescriptor "()V" = some ⟨[], none⟩ := by decide +kernel
theorem pd_3 : parseMethodDescriptor "(I)Z" = some ⟨[.int], some .boolean⟩ := by decide +kernel
theorem ef_1 (m : MethodId) (x0 : Int32) (x1 : Int32) (x2 : Int32) (x3 : Int32) : entryFrame m #[(.int x0), (.int x1), (.int x2), (.int x3)] 4 = mkF m 0 #[.val (.int x0), .val (.int x1), .val (.int x2), .val (.int x3)] [] := by first | (simp [entryFrame, mkF, argsToLocals, Value.category]; done) | rfl
def f1 (p0 : Int32) (p1 : Int32) (p2 : Int32) (p3 : Int32) : Int32 := if p3 = (1 : Int32) then p0 else if p3 = (2 : Int32) then p1 else if p3 = (3 : Int32) then (p0 - (1 : Int32)) else if p3 = (4 : Int32) then (p1 - (1 : Int32)) else if p3 = (5 : Int32) then (p0 + (1 : Int32)) else if p3 = (6 : Int32) then (p1 + (1 : Int32)) else p2
def Q1 (p0 : Int32) (p1 : Int32) (p2 : Int32) (p3 : Int32) (h0 : Heap) (n0 : Nat) (v : Option Value) (h : Heap) (L : List Loc) : Prop := v = some (.int (f1 p0 p1 p2 p3)) ∧ Fr n0 L ∧ h = h0
set_option maxRecDepth 65536 in
set_option maxHeartbeats 40000000 in
theorem rm1 (l : Launch) (Z : State) (aZ : Array Value) (hw : ∀ d ∈ tables_1, d.before aZ Z = true) (ws : List Jvm.Cond) (p0 : Int32) (p1 : Int32) (p2 : Int32) (p3 : Int32)  (h0 : Heap) (n0 : Nat) (Z0 : n0 ≤ h0.size)  :
    MetFree l (⟨"com/example/tideway/tideway/ReplanCoversPinLaw", "probe", "(IIII)I"⟩ : MethodName) (head1 (Jvm.Cond.code (⟨"com/example/tideway/tideway/ReplanCoversPinLaw", "probe", "(IIII)I"⟩ : MethodName) method_3_code 4 (some .int) :: ws) ({ frames := 0, cells := 0, slots := 0, locals := 0 } : Room)) (fun a U => a = #[(.int p0), (.int p1), (.int p2), (.int p3)] ∧ Z.Warmed39 U.vm ∧ U.heap = h0) (fun _ _ _ _ _ => True) (fun _ U o U' => ∃ v L, o = .returned v ∧ Q1 p0 p1 p2 p3 h0 n0 v U'.heap L ∧ FrameEnd U o U' L ({ frames := 0, cells := 0, slots := 0, locals := 0 } : Room).cells ({ frames := 0, cells := 0, slots := 0, locals := 0 } : Room).slots) := by
  refine MetFree.of_bodySF (plainFor_of_name pn_1) hisR ?_
  intro p e s m args below meth c s₁ Bd hml0 hP hK
  obtain ⟨rfl, hZ, hh⟩ := hP
  have hx := Bd.exec
  have hby := Bd.bytes
  have hml : c.maxLocals = 4 := hml0
  have hown : s.vm.findClass "com/example/tideway/tideway/ReplanCoversPinLaw" = some m.cls := findClass_of_methodNamed Bd.named
  have hnm := (name_of_methodNamed Bd.named Bd.method).1
  have X0 : Stand p l e ({ frames := 0, cells := 0, slots := 0, locals := 0 } : Room) s m #[(.int p0), (.int p1), (.int p2), (.int p3)] below meth c s₁ [] 0 0 := Stand.of_body Bd
  have e0 : s₁.heap = h0 := by rw [← hh, Bd.state]; rfl
  have N0 := Fr.nil n0
  have pre0 : ∀ t, Steps p.tables e below (s₁.setTop (mkF m 0 #[.val (.int p0), .val (.int p1), .val (.int p2), .val (.int p3)] [])) t → Steps p.tables e below (s₁.setTop (entryFrame m #[(.int p0), (.int p1), (.int p2), (.int p3)] 4)) t := fun t k => castTop (ef_1 m p0 p1 p2 p3) k
  obtain ⟨fs, hr, hrun, hended, hW, hsame⟩ := X0.leave (v := some (.int (f1 p0 p1 p2 p3))) (fun h => by rw [Bd.returns] at h; cases h)
  refine ⟨_, _, pre0 _ ?_, hrun, hended, _, _, rfl, ?_, ⟨_, rfl⟩, hW, hsame.mono (by decide) (by decide)⟩
  · show Steps p.tables e below (s₁.setTop (mkF m 0 #[.val (.int p0), .val (.int p1), .val (.int p2), .val (.int p3)] [])) _
    refine XS.iloadN X0.here hx rfl (hb hby d1_0) rfl ?_
    show Steps p.tables e below (s₁.setTop (mkF m 1 #[.val (.int p0), .val (.int p1), .val (.int p2), .val (.int p3)] [(.int p3)])) _
    refine XS.iconst X0.here hx rfl (hb hby d1_1) ?_
    show Steps p.tables e below (s₁.setTop (mkF m 2 #[.val (.int p0), .val (.int p1), .val (.int p2), .val (.int p3)] [(.int (1 : Int32)), (.int p3)])) _
    by_cases c7 : p3 = (1 : Int32)
    · refine XS.icmpNo X0.here hx rfl (hb hby d1_2) rfl (teq c7).2 ?_
      show Steps p.tables e below (s₁.setTop (mkF m 5 #[.val (.int p0), .val (.int p1), .val (.int p2), .val (.int p3)] [])) _
      refine XS.iloadN X0.here hx rfl (hb hby d1_5) rfl ?_
      show Steps p.tables e below (s₁.setTop (mkF m 6 #[.val (.int p0), .val (.int p1), .val (.int p2), .val (.int p3)] [(.int p0)])) _
      have hv : f1 p0 p1 p2 p3 = p0 := by unfold f1; rw [if_pos c7]
      rw [hv] at hr
      exact retI X0 hx Bd.returns (hb hby d1_6) hr
    · refine XS.icmpYes X0.here hx rfl (pc0 := 2) (pc' := 7) rfl (hb hby d1_2) rfl (feq c7).2 (by decide) (by decide) ?_
      show Steps p.tables e below (s₁.setTop (mkF m 7 #[.val (.int p0), .val (.int p1), .val (.int p2), .val (.int p3)] [])) _
      refine XS.iloadN X0.here hx rfl (hb hby d1_7) rfl ?_
      show Steps p.tables e below (s₁.setTop (mkF m 8 #[.val (.int p0), .val (.int p1), .val (.int p2), .val (.int p3)] [(.int p3)])) _
      refine XS.iconst X0.here hx rfl (hb hby d1_8) ?_
      show Steps p.tables e below (s₁.setTop (mkF m 9 #[.val (.int p0), .val (.int p1), .val (.int p2), .val (.int p3)] [(.int (2 : Int32)), (.int p3)])) _
      by_cases c8 : p3 = (2 : Int32)
      · refine XS.icmpNo X0.here hx rfl (hb hby d1_9) rfl (teq c8).2 ?_
        show Steps p.tables e below (s₁.setTop (mkF m 12 #[.val (.int p0), .val (.int p1), .val (.int p2), .val (.int p3)] [])) _
        refine XS.iloadN X0.here hx rfl (hb hby d1_12) rfl ?_
        show Steps p.tables e below (s₁.setTop (mkF m 13 #[.val (.int p0), .val (.int p1), .val (.int p2), .val (.int p3)] [(.int p1)])) _
        have hv : f1 p0 p1 p2 p3 = p1 := by unfold f1; rw [if_neg c7, if_pos c8]
        rw [hv] at hr
        exact retI X0 hx Bd.returns (hb hby d1_13) hr
      · refine XS.icmpYes X0.here hx rfl (pc0 := 9) (pc' := 14) rfl (hb hby d1_9) rfl (feq c8).2 (by decide) (by decide) ?_
        show Steps p.tables e below (s₁.setTop (mkF m 14 #[.val (.int p0), .val (.int p1), .val (.int p2), .val (.int p3)] [])) _
        refine XS.iloadN X0.here hx rfl (hb hby d1_14) rfl ?_
        show Steps p.tables e below (s₁.setTop (mkF m 15 #[.val (.int p0), .val (.int p1), .val (.int p2), .val (.int p3)] [(.int p3)])) _
        refine XS.iconst X0.here hx rfl (hb hby d1_15) ?_
        show Steps p.tables e below (s₁.setTop (mkF m 16 #[.val (.int p0), .val (.int p1), .val (.int p2), .val (.int p3)] [(.int (3 : Int32)), (.int p3)])) _
        by_cases c9 : p3 = (3 : Int32)
        · refine XS.icmpNo X0.here hx rfl (hb hby d1_16) rfl (teq c9).2 ?_
          show Steps p.tables e below (s₁.setTop (mkF m 19 #[.val (.int p0), .val (.int p1), .val (.int p2), .val (.int p3)] [])) _
          refine XS.iloadN X0.here hx rfl (hb hby d1_19) rfl ?_
          show Steps p.tables e below (s₁.setTop (mkF m 20 #[.val (.int p0), .val (.int p1), .val (.int p2), .val (.int p3)] [(.int p0)])) _
          refine XS.iconst X0.here hx rfl (hb hby d1_20) ?_
          show Steps p.tables e below (s₁.setTop (mkF m 21 #[.val (.int p0), .val (.int p1), .val (.int p2), .val (.int p3)] [(.int (1 : Int32)), (.int p0)])) _
          refine XS.isub X0.here hx rfl (hb hby d1_21) rfl ?_
          show Steps p.tables e below (s₁.setTop (mkF m 22 #[.val (.int p0), .val (.int p1), .val (.int p2), .val (.int p3)] [(.int (p0 - (1 : Int32)))])) _
          have hv : f1 p0 p1 p2 p3 = (p0 - (1 : Int32)) := by unfold f1; rw [if_neg c7, if_neg c8, if_pos c9]
          rw [hv] at hr
          exact retI X0 hx Bd.returns (hb hby d1_22) hr
        · refine XS.icmpYes X0.here hx rfl (pc0 := 16) (pc' := 23) rfl (hb hby d1_16) rfl (feq c9).2 (by decide) (by decide) ?_
          show Steps p.tables e below (s₁.setTop (mkF m 23 #[.val (.int p0), .val (.int p1), .val (.int p2), .val (.int p3)] [])) _
          refine XS.iloadN X0.here hx rfl (hb hby d1_23) rfl ?_
          show Steps p.tables e below (s₁.setTop (mkF m 24 #[.val (.int p0), .val (.int p1), .val (.int p2), .val (.int p3)] [(.int p3)])) _
          refine XS.iconst X0.here hx rfl (hb hby d1_24) ?_
          show Steps p.tables e below (s₁.setTop (mkF m 25 #[.val (.int p0), .val (.int p1), .val (.int p2), .val (.int p3)] [(.int (4 : Int32)), (.int p3)])) _
          by_cases c10 : p3 = (4 : Int32)
          · refine XS.icmpNo X0.here hx rfl (hb hby d1_25) rfl (teq c10).2 ?_
            show Steps p.tables e below (s₁.setTop (mkF m 28 #[.val (.int p0), .val (.int p1), .val (.int p2), .val (.int p3)] [])) _
            refine XS.iloadN X0.here hx rfl (hb hby d1_28) rfl ?_
            show Steps p.tables e below (s₁.setTop (mkF m 29 #[.val (.int p0), .val (.int p1), .val (.int p2), .val (.int p3)] [(.int p1)])) _
            refine XS.iconst X0.here hx rfl (hb hby d1_29) ?_
            show Steps p.tables e below (s₁.setTop (mkF m 30 #[.val (.int p0), .val (.int p1), .val (.int p2), .val (.int p3)] [(.int (1 : Int32)), (.int p1)])) _
            refine XS.isub X0.here hx rfl (hb hby d1_30) rfl ?_
            show Steps p.tables e below (s₁.setTop (mkF m 31 #[.val (.int p0), .val (.int p1), .val (.int p2), .val (.int p3)] [(.int (p1 - (1 : Int32)))])) _
            have hv : f1 p0 p1 p2 p3 = (p1 - (1 : Int32)) := by unfold f1; rw [if_neg c7, if_neg c8, if_neg c9, if_pos c10]
            rw [hv] at hr
            exact retI X0 hx Bd.returns (hb hby d1_31) hr
          · refine XS.icmpYes X0.here hx rfl (pc0 := 25) (pc' := 32) rfl (hb hby d1_25) rfl (feq c10).2 (by decide) (by decide) ?_
            show Steps p.tables e below (s₁.setTop (mkF m 32 #[.val (.int p0), .val (.int p1), .val (.int p2), .val (.int p3)] [])) _
            refine XS.iloadN X0.here hx rfl (hb hby d1_32) rfl ?_
            show Steps p.tables e below (s₁.setTop (mkF m 33 #[.val (.int p0), .val (.int p1), .val (.int p2), .val (.int p3)] [(.int p3)])) _
            refine XS.iconst X0.here hx rfl (hb hby d1_33) ?_
            show Steps p.tables e below (s₁.setTop (mkF m 34 #[.val (.int p0), .val (.int p1), .val (.int p2), .val (.int p3)] [(.int (5 : Int32)), (.int p3)])) _
            by_cases c11 : p3 = (5 : Int32)
            · refine XS.icmpNo X0.here hx rfl (hb hby d1_34) rfl (teq c11).2 ?_
              show Steps p.tables e below (s₁.setTop (mkF m 37 #[.val (.int p0), .val (.int p1), .val (.int p2), .val (.int p3)] [])) _
              refine XS.iloadN X0.here hx rfl (hb hby d1_37) rfl ?_
              show Steps p.tables e below (s₁.setTop (mkF m 38 #[.val (.int p0), .val (.int p1), .val (.int p2), .val (.int p3)] [(.int p0)])) _
              refine XS.iconst X0.here hx rfl (hb hby d1_38) ?_
              show Steps p.tables e below (s₁.setTop (mkF m 39 #[.val (.int p0), .val (.int p1), .val (.int p2), .val (.int p3)] [(.int (1 : Int32)), (.int p0)])) _
              refine XS.iadd X0.here hx rfl (hb hby d1_39) rfl ?_
              show Steps p.tables e below (s₁.setTop (mkF m 40 #[.val (.int p0), .val (.int p1), .val (.int p2), .val (.int p3)] [(.int (p0 + (1 : Int32)))])) _
              have hv : f1 p0 p1 p2 p3 = (p0 + (1 : Int32)) := by unfold f1; rw [if_neg c7, if_neg c8, if_neg c9, if_neg c10, if_pos c11]
              rw [hv] at hr
              exact retI X0 hx Bd.returns (hb hby d1_40) hr
            · refine XS.icmpYes X0.here hx rfl (pc0 := 34) (pc' := 41) rfl (hb hby d1_34) rfl (feq c11).2 (by decide) (by decide) ?_
              show Steps p.tables e below (s₁.setTop (mkF m 41 #[.val (.int p0), .val (.int p1), .val (.int p2), .val (.int p3)] [])) _
              refine XS.iloadN X0.here hx rfl (hb hby d1_41) rfl ?_
              show Steps p.tables e below (s₁.setTop (mkF m 42 #[.val (.int p0), .val (.int p1), .val (.int p2), .val (.int p3)] [(.int p3)])) _
              refine XS.bipush X0.here hx rfl (hb hby d1_42) ?_
              show Steps p.tables e below (s₁.setTop (mkF m 44 #[.val (.int p0), .val (.int p1), .val (.int p2), .val (.int p3)] [(.int (6 : Int32)), (.int p3)])) _
              by_cases c12 : p3 = (6 : Int32)
              · refine XS.icmpNo X0.here hx rfl (hb hby d1_44) rfl (teq c12).2 ?_
                show Steps p.tables e below (s₁.setTop (mkF m 47 #[.val (.int p0), .val (.int p1), .val (.int p2), .val (.int p3)] [])) _
                refine XS.iloadN X0.here hx rfl (hb hby d1_47) rfl ?_
                show Steps p.tables e below (s₁.setTop (mkF m 48 #[.val (.int p0), .val (.int p1), .val (.int p2), .val (.int p3)] [(.int p1)])) _
                refine XS.iconst X0.here hx rfl (hb hby d1_48) ?_
                show Steps p.tables e below (s₁.setTop (mkF m 49 #[.val (.int p0), .val (.int p1), .val (.int p2), .val (.int p3)] [(.int (1 : Int32)), (.int p1)])) _
                refine XS.iadd X0.here hx rfl (hb hby d1_49) rfl ?_
                show Steps p.tables e below (s₁.setTop (mkF m 50 #[.val (.int p0), .val (.int p1), .val (.int p2), .val (.int p3)] [(.int (p1 + (1 : Int32)))])) _
                have hv : f1 p0 p1 p2 p3 = (p1 + (1 : Int32)) := by unfold f1; rw [if_neg c7, if_neg c8, if_neg c9, if_neg c10, if_neg c11, if_pos c12]
                rw [hv] at hr
                exact retI X0 hx Bd.returns (hb hby d1_50) hr
              · refine XS.icmpYes X0.here hx rfl (pc0 := 44) (pc' := 51) rfl (hb hby d1_44) rfl (feq c12).2 (by decide) (by decide) ?_
                show Steps p.tables e below (s₁.setTop (mkF m 51 #[.val (.int p0), .val (.int p1), .val (.int p2), .val (.int p3)] [])) _
                refine XS.iloadN X0.here hx rfl (hb hby d1_51) rfl ?_
                show Steps p.tables e below (s₁.setTop (mkF m 52 #[.val (.int p0), .val (.int p1), .val (.int p2), .val (.int p3)] [(.int p2)])) _
                have hv : f1 p0 p1 p2 p3 = p2 := by unfold f1; rw [if_neg c7, if_neg c8, if_neg c9, if_neg c10, if_neg c11, if_neg c12]
                rw [hv] at hr
                exact retI X0 hx Bd.returns (hb hby d1_52) hr
  · show Q1 p0 p1 p2 p3 h0 n0 _ s₁.heap _
    rw [e0]
    exact ⟨rfl, N0, rfl⟩
theorem d3_0 : decode jdk_30_method_1_code 0 = .ok (.aload_n 0, 1) := by decide +kernel
theorem d3_1 : decode jdk_30_method_1_code 1 = .ok (.invokespecial 1, 3) := by decide +kernel
theorem d3_4 : decode jdk_30_method_1_code 4 = .ok (.return_, 1) := by decide +kernel
theorem pn_3 : plainName "java/lang/Record" = true := by first | (simp [plainName, overriddenIn]; done) | decide +kernel
theorem ef_3 (m : MethodId) (x0 : Addr) : entryFrame m #[(.ref x0)] 1 = mkF m 0 #[.val (.ref x0)] [] := by first | (simp [entryFrame, mkF, argsToLocals, Value.category]; done) | rfl
def Q3 (h0 : Heap) (n0 : Nat) (v : Option Value) (h : Heap) (L : List Loc) : Prop := v = none ∧ Fr n0 L ∧ h = h0
set_option maxRecDepth 65536 in
set_option maxHeartbeats 40000000 in
theorem rm3 (l : Launch) (Z : State) (aZ : Array Value) (hw : ∀ d ∈ tables_1, d.before aZ Z = true) (ws : List Jvm.Cond) (a0 : Addr)  (h0 : Heap) (n0 : Nat) (Z0 : n0 ≤ h0.size)  :
    MetFree l (⟨"java/lang/Record", "<init>", "()V"⟩ : MethodName) (head1 (Jvm.Cond.code (⟨"java/lang/Record", "<init>", "()V"⟩ : MethodName) jdk_30_method_1_code 1 none :: ws) ({ frames := 1, cells := 0, slots := 0, locals := 12 } : Room)) (fun a U => a = #[(.ref a0)] ∧ Z.Warmed39 U.vm ∧ U.heap = h0) (fun _ _ _ _ _ => True) (fun _ U o U' => ∃ v L, o = .returned v ∧ Q3 h0 n0 v U'.heap L ∧ FrameEnd U o U' L ({ frames := 1, cells := 0, slots := 0, locals := 12 } : Room).cells ({ frames := 1, cells := 0, slots := 0, locals := 12 } : Room).slots) := by
  refine MetFree.of_bodySF (plainFor_of_name pn_3) hisR ?_
  intro p e s m args below meth c s₁ Bd hml0 hP hK
  obtain ⟨rfl, hZ, hh⟩ := hP
  have hx := Bd.exec
  have hby := Bd.bytes
  have hml : c.maxLocals = 1 := hml0
  have hown : s.vm.findClass "java/lang/Record" = some m.cls := findClass_of_methodNamed Bd.named
  have hnm := (name_of_methodNamed Bd.named Bd.method).1
  have X0 : Stand p l e ({ frames := 1, cells := 0, slots := 0, locals := 12 } : Room) s m #[(.ref a0)] below meth c s₁ [] 0 0 := Stand.of_body Bd
  have e0 : s₁.heap = h0 := by rw [← hh, Bd.state]; rfl
  have N0 := Fr.nil n0
  have pre0 : ∀ t, Steps p.tables e below (s₁.setTop (mkF m 0 #[.val (.ref a0)] [])) t → Steps p.tables e below (s₁.setTop (entryFrame m #[(.ref a0)] 1)) t := fun t k => castTop (ef_3 m a0) k
  have pre13 : ∀ t, Steps p.tables e below (s₁.setTop (mkF m 1 #[.val (.ref a0)] [(.ref a0)])) t → Steps p.tables e below (s₁.setTop (entryFrame m #[(.ref a0)] 1)) t := fun t k => by
    refine pre0 _ ?_
    show Steps p.tables e below (s₁.setTop (mkF m 0 #[.val (.ref a0)] [])) _
    refine XS.aloadN X0.here hx rfl (hb hby d3_0) rfl rfl ?_
    show Steps p.tables e below (s₁.setTop (mkF m 1 #[.val (.ref a0)] [(.ref a0)])) _
    exact k
  obtain ⟨T14, X14, e14, st14⟩ := initO X0 hx hZ hown (hw _ (List.mem_of_getElem? (i := 15) rfl)) (hw _ (List.mem_of_getElem? (i := 16) rfl)) (hw _ (List.mem_of_getElem? (i := 17) rfl)) e0 (g := (mkF m 1 #[.val (.ref a0)] [(.ref a0)])) rfl (by rw [hml]; rfl) rfl (hb hby d3_1) (by decide) (W := 0) (by show 2 * 0 + _ ≤ _; exact Nat.le_of_eq rfl) (by decide)
  have pre14 : ∀ t, Steps p.tables e below (T14.setTop (mkF m 4 #[.val (.ref a0)] [])) t → Steps p.tables e below (s₁.setTop (entryFrame m #[(.ref a0)] 1)) t := fun t k => pre13 _ (st14 t k)
  obtain ⟨fs, hr, hrun, hended, hW, hsame⟩ := X14.leave (v := none) (fun _ => rfl)
  refine ⟨_, _, pre14 _ ?_, hrun, hended, _, _, rfl, ?_, ⟨_, rfl⟩, hW, hsame.mono (by decide) (by decide)⟩
  · show Steps p.tables e below (T14.setTop (mkF m 4 #[.val (.ref a0)] [])) _
    exact X14.returnOut hx Bd.returns (hb hby d3_4) hr
  · show Q3 h0 n0 _ T14.heap _
    rw [e14]
    exact ⟨rfl, N0, rfl⟩
theorem d2_0 : decode prog_44_method_1_code 0 = .ok (.aload_n 0, 1) := by decide +kernel
theorem d2_1 : decode prog_44_method_1_code 1 = .ok (.invokespecial 1, 3) := by decide +kernel
theorem d2_4 : decode prog_44_method_1_code 4 = .ok (.aload_n 0, 1) := by decide +kernel
theorem d2_5 : decode prog_44_method_1_code 5 = .ok (.aload_n 1, 1) := by decide +kernel
theorem d2_6 : decode prog_44_method_1_code 6 = .ok (.putfield 7, 3) := by decide +kernel
theorem d2_9 : decode prog_44_method_1_code 9 = .ok (.aload_n 0, 1) := by decide +kernel
theorem d2_10 : decode prog_44_method_1_code 10 = .ok (.aload_n 2, 1) := by decide +kernel
theorem d2_11 : decode prog_44_method_1_code 11 = .ok (.putfield 13, 3) := by decide +kernel
theorem d2_14 : decode prog_44_method_1_code 14 = .ok (.aload_n 0, 1) := by decide +kernel
theorem d2_15 : decode prog_44_method_1_code 15 = .ok (.iload_n 3, 1) := by decide +kernel
theorem d2_16 : decode prog_44_method_1_code 16 = .ok (.putfield 17, 3) := by decide +kernel
theorem d2_19 : decode prog_44_method_1_code 19 = .ok (.aload_n 0, 1) := by decide +kernel
theorem d2_20 : decode prog_44_method_1_code 20 = .ok (.iload 4, 2) := by decide +kernel
theorem d2_22 : decode prog_44_method_1_code 22 = .ok (.putfield 21, 3) := by decide +kernel
theorem d2_25 : decode prog_44_method_1_code 25 = .ok (.return_, 1) := by decide +kernel
theorem pn_2 : plainName "com/example/tideway/tideway/Replan$Planned" = true := by first | (simp [plainName, overriddenIn]; done) | decide +kernel
theorem ef_2 (m : MethodId) (x0 : Addr) (x3 : Int32) (x4 : Int32) : entryFrame m #[(.ref x0), .null, .null, (.int x3), (.int x4)] 5 = mkF m 0 #[.val (.ref x0), .val .null, .val .null, .val (.int x3), .val (.int x4)] [] := by first | (simp [entryFrame, mkF, argsToLocals, Value.category]; done) | rfl
def Q2 (Z : State) (a0 : Addr) (p3 : Int32) (p4 : Int32) (h0 : Heap) (n0 : Nat) (v : Option Value) (h : Heap) (L : List Loc) : Prop := v = none ∧ Fr n0 L ∧ Keep h0 h [a0] ∧ Exa Z h a0 "com/example/tideway/tideway/Replan$Planned" ∧ Fld Z h a0 "com/example/tideway/tideway/Replan$Planned" "request" "Lcom/example/tideway/tideway/Request$Transfer;" .null ∧ Fld Z h a0 "com/example/tideway/tideway/Replan$Planned" "routes" "Ljava/util/List;" .null ∧ Fld Z h a0 "com/example/tideway/tideway/Replan$Planned" "first" "I" (.int p3) ∧ Fld Z h a0 "com/example/tideway/tideway/Replan$Planned" "end" "I" (.int p4)
set_option maxRecDepth 65536 in
set_option maxHeartbeats 40000000 in
theorem rm2 (l : Launch) (Z : State) (aZ : Array Value) (hw : ∀ d ∈ tables_1, d.before aZ Z = true) (ws : List Jvm.Cond) (a0 : Addr) (p3 : Int32) (p4 : Int32)  (h0 : Heap) (n0 : Nat) (Z0 : n0 ≤ h0.size) (F_request : Fld Z h0 a0 "com/example/tideway/tideway/Replan$Planned" "request" "Lcom/example/tideway/tideway/Request$Transfer;" .null) (F_routes : Fld Z h0 a0 "com/example/tideway/tideway/Replan$Planned" "routes" "Ljava/util/List;" .null) (F_first : Fld Z h0 a0 "com/example/tideway/tideway/Replan$Planned" "first" "I" (.int (0 : Int32))) (F_end : Fld Z h0 a0 "com/example/tideway/tideway/Replan$Planned" "end" "I" (.int (0 : Int32))) (E_o : Exa Z h0 a0 "com/example/tideway/tideway/Replan$Planned") (g_a0 : n0 ≤ a0) :
    MetFree l (⟨"com/example/tideway/tideway/Replan$Planned", "<init>", "(Lcom/example/tideway/tideway/Request$Transfer;Ljava/util/List;II)V"⟩ : MethodName) (head1 (Jvm.Cond.code (⟨"com/example/tideway/tideway/Replan$Planned", "<init>", "(Lcom/example/tideway/tideway/Request$Transfer;Ljava/util/List;II)V"⟩ : MethodName) prog_44_method_1_code 5 none :: ws) ({ frames := 2, cells := 0, slots := 0, locals := 24 } : Room)) (fun a U => a = #[(.ref a0), .null, .null, (.int p3), (.int p4)] ∧ Z.Warmed39 U.vm ∧ U.heap = h0) (fun _ _ _ _ _ => True) (fun _ U o U' => ∃ v L, o = .returned v ∧ Q2 Z a0 p3 p4 h0 n0 v U'.heap L ∧ FrameEnd U o U' L ({ frames := 2, cells := 0, slots := 0, locals := 24 } : Room).cells ({ frames := 2, cells := 0, slots := 0, locals := 24 } : Room).slots) := by
  refine MetFree.of_bodySF (plainFor_of_name pn_2) hisR ?_
  intro p e s m args below meth c s₁ Bd hml0 hP hK
  obtain ⟨rfl, hZ, hh⟩ := hP
  have hx := Bd.exec
  have hby := Bd.bytes
  have hml : c.maxLocals = 5 := hml0
  have hown : s.vm.findClass "com/example/tideway/tideway/Replan$Planned" = some m.cls := findClass_of_methodNamed Bd.named
  have hnm := (name_of_methodNamed Bd.named Bd.method).1
  have X0 : Stand p l e ({ frames := 2, cells := 0, slots := 0, locals := 24 } : Room) s m #[(.ref a0), .null, .null, (.int p3), (.int p4)] below meth c s₁ [] 0 0 := Stand.of_body Bd
  have e0 : s₁.heap = h0 := by rw [← hh, Bd.state]; rfl
  have N0 := Fr.nil n0
  have pre0 : ∀ t, Steps p.tables e below (s₁.setTop (mkF m 0 #[.val (.ref a0), .val .null, .val .null, .val (.int p3), .val (.int p4)] [])) t → Steps p.tables e below (s₁.setTop (entryFrame m #[(.ref a0), .null, .null, (.int p3), (.int p4)] 5)) t := fun t k => castTop (ef_2 m a0 p3 p4) k
  have pre27 : ∀ t, Steps p.tables e below (s₁.setTop (mkF m 1 #[.val (.ref a0), .val .null, .val .null, .val (.int p3), .val (.int p4)] [(.ref a0)])) t → Steps p.tables e below (s₁.setTop (entryFrame m #[(.ref a0), .null, .null, (.int p3), (.int p4)] 5)) t := fun t k => by
    refine pre0 _ ?_
    show Steps p.tables e below (s₁.setTop (mkF m 0 #[.val (.ref a0), .val .null, .val .null, .val (.int p3), .val (.int p4)] [])) _
    refine XS.aloadN X0.here hx rfl (hb hby d2_0) rfl rfl ?_
    show Steps p.tables e below (s₁.setTop (mkF m 1 #[.val (.ref a0), .val .null, .val .null, .val (.int p3), .val (.int p4)] [(.ref a0)])) _
    exact k
  obtain ⟨_, _, ⟨T28, L28, k28, n28⟩, -, X28, ⟨Lc28, hQ28, l28, y28, z28⟩, st28⟩ := X0.specialBack hx (y := (⟨"java/lang/Record", "<init>", "()V"⟩ : MethodName)) rfl hown (mvT hZ (hw _ (List.mem_of_getElem? (i := 10) rfl))) (mvT hZ (hw _ (List.mem_of_getElem? (i := 11) rfl))) (mvT hZ (hw _ (List.mem_of_getElem? (i := 14) rfl))) (by decide) (backOf (W := 0) (rm3 l Z aZ hw [] a0  h0 n0 Z0 ) hZ (hw _ (List.mem_of_getElem? (i := 14) rfl)) (hw _ (List.mem_of_getElem? (i := 13) rfl)) (by decide) (by decide)) (g := (mkF m 1 #[.val (.ref a0), .val .null, .val .null, .val (.int p3), .val (.int p4)] [(.ref a0)])) rfl (by rw [hml]; rfl) (Steps.refl _) (a := a0) (argsL := []) (rest := []) (lenOf pd_2 rfl) rfl (by show 2 * 0 + _ ≤ _; exact Nat.le_of_eq rfl) (hb hby d2_1) (fun _ _ => ⟨rfl, e0, (by decide : 0 + 0 ≤ _), (by decide : 0 + 0 ≤ _)⟩)
  dsimp only [Pt.U, Pt.locs, Pt.cells, Pt.slots] at X28 l28 y28 z28 st28 hQ28
  subst l28 y28 z28
  obtain ⟨rfl, N28q, e28⟩ := hQ28
  have N28 := Fr.app N0 N28q
  have pre28 : ∀ t, Steps p.tables e below (T28.setTop (mkF m 4 #[.val (.ref a0), .val .null, .val .null, .val (.int p3), .val (.int p4)] [])) t → Steps p.tables e below (s₁.setTop (entryFrame m #[(.ref a0), .null, .null, (.int p3), (.int p4)] 5)) t := fun t k => pre27 _ (st28.trans k)
  have pre29 : ∀ t, Steps p.tables e below (T28.setTop (mkF m 6 #[.val (.ref a0), .val .null, .val .null, .val (.int p3), .val (.int p4)] [.null, (.ref a0)])) t → Steps p.tables e below (s₁.setTop (entryFrame m #[(.ref a0), .null, .null, (.int p3), (.int p4)] 5)) t := fun t k => by
    refine pre28 _ ?_
    show Steps p.tables e below (T28.setTop (mkF m 4 #[.val (.ref a0), .val .null, .val .null, .val (.int p3), .val (.int p4)] [])) _
    refine XS.aloadN X28.here hx rfl (hb hby d2_4) rfl rfl ?_
    show Steps p.tables e below (T28.setTop (mkF m 5 #[.val (.ref a0), .val .null, .val .null, .val (.int p3), .val (.int p4)] [(.ref a0)])) _
    refine XS.aloadN X28.here hx rfl (hb hby d2_5) rfl rfl ?_
    show Steps p.tables e below (T28.setTop (mkF m 6 #[.val (.ref a0), .val .null, .val .null, .val (.int p3), .val (.int p4)] [.null, (.ref a0)])) _
    exact k
  obtain ⟨T30, h30, X30, e30, W30, st30⟩ := putF X28 hx hZ hown (host := "") (Or.inl (hw _ (List.mem_of_getElem? (i := 18) rfl))) Via.refl e28 F_request E_o (Or.inr ⟨(hw _ (List.mem_of_getElem? (i := 19) rfl)), rfl, hnm⟩) (hw _ (List.mem_of_getElem? (i := 5) rfl)) (ty := (.object "com/example/tideway/tideway/Request$Transfer")) (by decide) rfl rfl (g := (mkF m 6 #[.val (.ref a0), .val .null, .val .null, .val (.int p3), .val (.int p4)] [.null, (.ref a0)])) rfl rfl (hb hby d2_6)
  have F30_0 := E_o.wr W30
  have F30_1 := F_request.same W30
  have F30_2 := F_routes.other W30 (Or.inr (slot_ne (Or.inr (hw _ (List.mem_of_getElem? (i := 21) rfl))) (Or.inr (hw _ (List.mem_of_getElem? (i := 19) rfl))) (by decide) (t := (.object "java/util/List")) (t' := (.object "com/example/tideway/tideway/Request$Transfer")) (by decide) (by decide)))
  have F30_3 := F_first.other W30 (Or.inr (slot_ne (Or.inr (hw _ (List.mem_of_getElem? (i := 23) rfl))) (Or.inr (hw _ (List.mem_of_getElem? (i := 19) rfl))) (by decide) (t := .int) (t' := (.object "com/example/tideway/tideway/Request$Transfer")) (by decide) (by decide)))
  have F30_4 := F_end.other W30 (Or.inr (slot_ne (Or.inr (hw _ (List.mem_of_getElem? (i := 25) rfl))) (Or.inr (hw _ (List.mem_of_getElem? (i := 19) rfl))) (by decide) (t := .int) (t' := (.object "com/example/tideway/tideway/Request$Transfer")) (by decide) (by decide)))
  have Zs30 : n0 ≤ h30.size := Nat.le_trans Z0 (Keep.of_wr W30).1
  have K0 := Keep.refl h0 [a0]
  have K30 := K0.wr W30 (Or.inl (List.mem_of_getElem? (i := 0) rfl))
  have N30 := Fr.snoc X30 N28 g_a0
  have pre30 : ∀ t, Steps p.tables e below (T30.setTop (mkF m 9 #[.val (.ref a0), .val .null, .val .null, .val (.int p3), .val (.int p4)] [])) t → Steps p.tables e below (s₁.setTop (entryFrame m #[(.ref a0), .null, .null, (.int p3), (.int p4)] 5)) t := fun t k => pre29 _ (st30 t k)
  have pre31 : ∀ t, Steps p.tables e below (T30.setTop (mkF m 11 #[.val (.ref a0), .val .null, .val .null, .val (.int p3), .val (.int p4)] [.null, (.ref a0)])) t → Steps p.tables e below (s₁.setTop (entryFrame m #[(.ref a0), .null, .null, (.int p3), (.int p4)] 5)) t := fun t k => by
    refine pre30 _ ?_
    show Steps p.tables e below (T30.setTop (mkF m 9 #[.val (.ref a0), .val .null, .val .null, .val (.int p3), .val (.int p4)] [])) _
    refine XS.aloadN X30.here hx rfl (hb hby d2_9) rfl rfl ?_
    show Steps p.tables e below (T30.setTop (mkF m 10 #[.val (.ref a0), .val .null, .val .null, .val (.int p3), .val (.int p4)] [(.ref a0)])) _
    refine XS.aloadN X30.here hx rfl (hb hby d2_10) rfl rfl ?_
    show Steps p.tables e below (T30.setTop (mkF m 11 #[.val (.ref a0), .val .null, .val .null, .val (.int p3), .val (.int p4)] [.null, (.ref a0)])) _
    exact k
  obtain ⟨T32, h32, X32, e32, W32, st32⟩ := putF X30 hx hZ hown (host := "") (Or.inl (hw _ (List.mem_of_getElem? (i := 20) rfl))) Via.refl e30 F30_2 F30_0 (Or.inr ⟨(hw _ (List.mem_of_getElem? (i := 21) rfl)), rfl, hnm⟩) (hw _ (List.mem_of_getElem? (i := 5) rfl)) (ty := (.object "java/util/List")) (by decide) rfl rfl (g := (mkF m 11 #[.val (.ref a0), .val .null, .val .null, .val (.int p3), .val (.int p4)] [.null, (.ref a0)])) rfl rfl (hb hby d2_11)
  have F32_0 := F30_0.wr W32
  have F32_1 := F30_1.other W32 (Or.inr (slot_ne (Or.inr (hw _ (List.mem_of_getElem? (i := 19) rfl))) (Or.inr (hw _ (List.mem_of_getElem? (i := 21) rfl))) (by decide) (t := (.object "com/example/tideway/tideway/Request$Transfer")) (t' := (.object "java/util/List")) (by decide) (by decide)))
  have F32_2 := F30_2.same W32
  have F32_3 := F30_3.other W32 (Or.inr (slot_ne (Or.inr (hw _ (List.mem_of_getElem? (i := 23) rfl))) (Or.inr (hw _ (List.mem_of_getElem? (i := 21) rfl))) (by decide) (t := .int) (t' := (.object "java/util/List")) (by decide) (by decide)))
  have F32_4 := F30_4.other W32 (Or.inr (slot_ne (Or.inr (hw _ (List.mem_of_getElem? (i := 25) rfl))) (Or.inr (hw _ (List.mem_of_getElem? (i := 21) rfl))) (by decide) (t := .int) (t' := (.object "java/util/List")) (by decide) (by decide)))
  have Zs32 : n0 ≤ h32.size := Nat.le_trans Zs30 (Keep.of_wr W32).1
  have K32 := K30.wr W32 (Or.inl (List.mem_of_getElem? (i := 0) rfl))
  have N32 := Fr.snoc X32 N30 g_a0
  have pre32 : ∀ t, Steps p.tables e below (T32.setTop (mkF m 14 #[.val (.ref a0), .val .null, .val .null, .val (.int p3), .val (.int p4)] [])) t → Steps p.tables e below (s₁.setTop (entryFrame m #[(.ref a0), .null, .null, (.int p3), (.int p4)] 5)) t := fun t k => pre31 _ (st32 t k)
  have pre33 : ∀ t, Steps p.tables e below (T32.setTop (mkF m 16 #[.val (.ref a0), .val .null, .val .null, .val (.int p3), .val (.int p4)] [(.int p3), (.ref a0)])) t → Steps p.tables e below (s₁.setTop (entryFrame m #[(.ref a0), .null, .null, (.int p3), (.int p4)] 5)) t := fun t k => by
    refine pre32 _ ?_
    show Steps p.tables e below (T32.setTop (mkF m 14 #[.val (.ref a0), .val .null, .val .null, .val (.int p3), .val (.int p4)] [])) _
    refine XS.aloadN X32.here hx rfl (hb hby d2_14) rfl rfl ?_
    show Steps p.tables e below (T32.setTop (mkF m 15 #[.val (.ref a0), .val .null, .val .null, .val (.int p3), .val (.int p4)] [(.ref a0)])) _
    refine XS.iloadN X32.here hx rfl (hb hby d2_15) rfl ?_
    show Steps p.tables e below (T32.setTop (mkF m 16 #[.val (.ref a0), .val .null, .val .null, .val (.int p3), .val (.int p4)] [(.int p3), (.ref a0)])) _
    exact k
  obtain ⟨T34, h34, X34, e34, W34, st34⟩ := putF X32 hx hZ hown (host := "") (Or.inl (hw _ (List.mem_of_getElem? (i := 22) rfl))) Via.refl e32 F32_3 F32_0 (Or.inr ⟨(hw _ (List.mem_of_getElem? (i := 23) rfl)), rfl, hnm⟩) (hw _ (List.mem_of_getElem? (i := 5) rfl)) (ty := .int) (by decide) rfl rfl (g := (mkF m 16 #[.val (.ref a0), .val .null, .val .null, .val (.int p3), .val (.int p4)] [(.int p3), (.ref a0)])) rfl rfl (hb hby d2_16)
  have F34_0 := F32_0.wr W34
  have F34_1 := F32_1.other W34 (Or.inr (slot_ne (Or.inr (hw _ (List.mem_of_getElem? (i := 19) rfl))) (Or.inr (hw _ (List.mem_of_getElem? (i := 23) rfl))) (by decide) (t := (.object "com/example/tideway/tideway/Request$Transfer")) (t' := .int) (by decide) (by decide)))
  have F34_2 := F32_2.other W34 (Or.inr (slot_ne (Or.inr (hw _ (List.mem_of_getElem? (i := 21) rfl))) (Or.inr (hw _ (List.mem_of_getElem? (i := 23) rfl))) (by decide) (t := (.object "java/util/List")) (t' := .int) (by decide) (by decide)))
  have F34_3 := F32_3.same W34
  have F34_4 := F32_4.other W34 (Or.inr (slot_ne (Or.inr (hw _ (List.mem_of_getElem? (i := 25) rfl))) (Or.inr (hw _ (List.mem_of_getElem? (i := 23) rfl))) (by decide) (t := .int) (t' := .int) (by decide) (by decide)))
  have Zs34 : n0 ≤ h34.size := Nat.le_trans Zs32 (Keep.of_wr W34).1
  have K34 := K32.wr W34 (Or.inl (List.mem_of_getElem? (i := 0) rfl))
  have N34 := Fr.snoc X34 N32 g_a0
  have pre34 : ∀ t, Steps p.tables e below (T34.setTop (mkF m 19 #[.val (.ref a0), .val .null, .val .null, .val (.int p3), .val (.int p4)] [])) t → Steps p.tables e below (s₁.setTop (entryFrame m #[(.ref a0), .null, .null, (.int p3), (.int p4)] 5)) t := fun t k => pre33 _ (st34 t k)
  have pre35 : ∀ t, Steps p.tables e below (T34.setTop (mkF m 22 #[.val (.ref a0), .val .null, .val .null, .val (.int p3), .val (.int p4)] [(.int p4), (.ref a0)])) t → Steps p.tables e below (s₁.setTop (entryFrame m #[(.ref a0), .null, .null, (.int p3), (.int p4)] 5)) t := fun t k => by
    refine pre34 _ ?_
    show Steps p.tables e below (T34.setTop (mkF m 19 #[.val (.ref a0), .val .null, .val .null, .val (.int p3), .val (.int p4)] [])) _
    refine XS.aloadN X34.here hx rfl (hb hby d2_19) rfl rfl ?_
    show Steps p.tables e below (T34.setTop (mkF m 20 #[.val (.ref a0), .val .null, .val .null, .val (.int p3), .val (.int p4)] [(.ref a0)])) _
    refine XS.iload X34.here hx rfl (hb hby d2_20) rfl ?_
    show Steps p.tables e below (T34.setTop (mkF m 22 #[.val (.ref a0), .val .null, .val .null, .val (.int p3), .val (.int p4)] [(.int p4), (.ref a0)])) _
    exact k
  obtain ⟨T36, h36, X36, e36, W36, st36⟩ := putF X34 hx hZ hown (host := "") (Or.inl (hw _ (List.mem_of_getElem? (i := 24) rfl))) Via.refl e34 F34_4 F34_0 (Or.inr ⟨(hw _ (List.mem_of_getElem? (i := 25) rfl)), rfl, hnm⟩) (hw _ (List.mem_of_getElem? (i := 5) rfl)) (ty := .int) (by decide) rfl rfl (g := (mkF m 22 #[.val (.ref a0), .val .null, .val .null, .val (.int p3), .val (.int p4)] [(.int p4), (.ref a0)])) rfl rfl (hb hby d2_22)
  have F36_0 := F34_0.wr W36
  have F36_1 := F34_1.other W36 (Or.inr (slot_ne (Or.inr (hw _ (List.mem_of_getElem? (i := 19) rfl))) (Or.inr (hw _ (List.mem_of_getElem? (i := 25) rfl))) (by decide) (t := (.object "com/example/tideway/tideway/Request$Transfer")) (t' := .int) (by decide) (by decide)))
  have F36_2 := F34_2.other W36 (Or.inr (slot_ne (Or.inr (hw _ (List.mem_of_getElem? (i := 21) rfl))) (Or.inr (hw _ (List.mem_of_getElem? (i := 25) rfl))) (by decide) (t := (.object "java/util/List")) (t' := .int) (by decide) (by decide)))
  have F36_3 := F34_3.other W36 (Or.inr (slot_ne (Or.inr (hw _ (List.mem_of_getElem? (i := 23) rfl))) (Or.inr (hw _ (List.mem_of_getElem? (i := 25) rfl))) (by decide) (t := .int) (t' := .int) (by decide) (by decide)))
  have F36_4 := F34_4.same W36
  have Zs36 : n0 ≤ h36.size := Nat.le_trans Zs34 (Keep.of_wr W36).1
  have K36 := K34.wr W36 (Or.inl (List.mem_of_getElem? (i := 0) rfl))
  have N36 := Fr.snoc X36 N34 g_a0
  have pre36 : ∀ t, Steps p.tables e below (T36.setTop (mkF m 25 #[.val (.ref a0), .val .null, .val .null, .val (.int p3), .val (.int p4)] [])) t → Steps p.tables e below (s₁.setTop (entryFrame m #[(.ref a0), .null, .null, (.int p3), (.int p4)] 5)) t := fun t k => pre35 _ (st36 t k)
  obtain ⟨fs, hr, hrun, hended, hW, hsame⟩ := X36.leave (v := none) (fun _ => rfl)
  refine ⟨_, _, pre36 _ ?_, hrun, hended, _, _, rfl, ?_, ⟨_, rfl⟩, hW, hsame.mono (by decide) (by decide)⟩
  · show Steps p.tables e below (T36.setTop (mkF m 25 #[.val (.ref a0), .val .null, .val .null, .val (.int p3), .val (.int p4)] [])) _
    exact X36.returnOut hx Bd.returns (hb hby d2_25) hr
  · show Q2 Z a0 p3 p4 h0 n0 _ T36.heap _
    rw [e36]
    exact ⟨rfl, N36, K36, F36_0, F36_1, F36_2, F36_3, F36_4⟩
theorem d5_0 : decode prog_44_method_2_code 0 = .ok (.iload_n 1, 1) := by decide +kernel
theorem d5_1 : decode prog_44_method_2_code 1 = .ok (.aload_n 0, 1) := by decide +kernel
theorem d5_2 : decode prog_44_method_2_code 2 = .ok (.getfield 17, 3) := by decide +kernel
theorem d5_5 : decode prog_44_method_2_code 5 = .ok (.if_icmp .lt 15, 3) := by decide +kernel
theorem d5_8 : decode prog_44_method_2_code 8 = .ok (.iload_n 1, 1) := by decide +kernel
theorem d5_9 : decode prog_44_method_2_code 9 = .ok (.aload_n 0, 1) := by decide +kernel
theorem d5_10 : decode prog_44_method_2_code 10 = .ok (.getfield 21, 3) := by decide +kernel
theorem d5_13 : decode prog_44_method_2_code 13 = .ok (.if_icmp .ge 7, 3) := by decide +kernel
theorem d5_16 : decode prog_44_method_2_code 16 = .ok (.iconst 1, 1) := by decide +kernel
theorem d5_17 : decode prog_44_method_2_code 17 = .ok (.goto 4, 3) := by decide +kernel
theorem d5_20 : decode prog_44_method_2_code 20 = .ok (.iconst 0, 1) := by decide +kernel
theorem d5_21 : decode prog_44_method_2_code 21 = .ok (.ireturn, 1) := by decide +kernel
theorem ef_5 (m : MethodId) (x0 : Addr) (x1 : Int32) : entryFrame m #[(.ref x0), (.int x1)] 2 = mkF m 0 #[.val (.ref x0), .val (.int x1)] [] := by first | (simp [entryFrame, mkF, argsToLocals, Value.category]; done) | rfl
def f5 (p1 : Int32) (wf : Int32) (we : Int32) : Int32 := if p1 < wf then (0 : Int32) else if p1 < we then (1 : Int32) else (0 : Int32)
def Q5 (p1 : Int32) (wf : Int32) (we : Int32) (h0 : Heap) (n0 : Nat) (v : Option Value) (h : Heap) (L : List Loc) : Prop := v = some (.int (f5 p1 wf we)) ∧ Fr n0 L ∧ h = h0
set_option maxRecDepth 65536 in
set_option maxHeartbeats 40000000 in
theorem rm5 (l : Launch) (Z : State) (aZ : Array Value) (hw : ∀ d ∈ tables_1, d.before aZ Z = true) (ws : List Jvm.Cond) (a0 : Addr) (p1 : Int32) (wf : Int32) (we : Int32) (h0 : Heap) (n0 : Nat) (Z0 : n0 ≤ h0.size) (F_first : Fld Z h0 a0 "com/example/tideway/tideway/Replan$Planned" "first" "I" (.int wf)) (F_end : Fld Z h0 a0 "com/example/tideway/tideway/Replan$Planned" "end" "I" (.int we)) :
    MetFree l (⟨"com/example/tideway/tideway/Replan$Planned", "covers", "(I)Z"⟩ : MethodName) (head1 (Jvm.Cond.code (⟨"com/example/tideway/tideway/Replan$Planned", "covers", "(I)Z"⟩ : MethodName) prog_44_method_2_code 2 (some .boolean) :: ws) ({ frames := 0, cells := 0, slots := 0, locals := 0 } : Room)) (fun a U => a = #[(.ref a0), (.int p1)] ∧ Z.Warmed39 U.vm ∧ U.heap = h0) (fun _ _ _ _ _ => True) (fun _ U o U' => ∃ v L, o = .returned v ∧ Q5 p1 wf we h0 n0 v U'.heap L ∧ FrameEnd U o U' L ({ frames := 0, cells := 0, slots := 0, locals := 0 } : Room).cells ({ frames := 0, cells := 0, slots := 0, locals := 0 } : Room).slots) := by
  refine MetFree.of_bodySF (plainFor_of_name pn_2) hisR ?_
  intro p e s m args below meth c s₁ Bd hml0 hP hK
  obtain ⟨rfl, hZ, hh⟩ := hP
  have hx := Bd.exec
  have hby := Bd.bytes
  have hml : c.maxLocals = 2 := hml0
  have hown : s.vm.findClass "com/example/tideway/tideway/Replan$Planned" = some m.cls := findClass_of_methodNamed Bd.named
  have hnm := (name_of_methodNamed Bd.named Bd.method).1
  have X0 : Stand p l e ({ frames := 0, cells := 0, slots := 0, locals := 0 } : Room) s m #[(.ref a0), (.int p1)] below meth c s₁ [] 0 0 := Stand.of_body Bd
  have e0 : s₁.heap = h0 := by rw [← hh, Bd.state]; rfl
  have N0 := Fr.nil n0
  have pre0 : ∀ t, Steps p.tables e below (s₁.setTop (mkF m 0 #[.val (.ref a0), .val (.int p1)] [])) t → Steps p.tables e below (s₁.setTop (entryFrame m #[(.ref a0), (.int p1)] 2)) t := fun t k => castTop (ef_5 m a0 p1) k
  have pre53 : ∀ t, Steps p.tables e below (s₁.setTop (mkF m 2 #[.val (.ref a0), .val (.int p1)] [(.ref a0), (.int p1)])) t → Steps p.tables e below (s₁.setTop (entryFrame m #[(.ref a0), (.int p1)] 2)) t := fun t k => by
    refine pre0 _ ?_
    show Steps p.tables e below (s₁.setTop (mkF m 0 #[.val (.ref a0), .val (.int p1)] [])) _
    refine XS.iloadN X0.here hx rfl (hb hby d5_0) rfl ?_
    show Steps p.tables e below (s₁.setTop (mkF m 1 #[.val (.ref a0), .val (.int p1)] [(.int p1)])) _
    refine XS.aloadN X0.here hx rfl (hb hby d5_1) rfl rfl ?_
    show Steps p.tables e below (s₁.setTop (mkF m 2 #[.val (.ref a0), .val (.int p1)] [(.ref a0), (.int p1)])) _
    exact k
  obtain ⟨T54, X54, e54, st54⟩ := getF X0 hx hZ hown (host := "") (Or.inl (hw _ (List.mem_of_getElem? (i := 22) rfl))) Via.refl e0 F_first (g := (mkF m 2 #[.val (.ref a0), .val (.int p1)] [(.ref a0), (.int p1)])) rfl rfl (hb hby d5_2)
  have pre54 : ∀ t, Steps p.tables e below (T54.setTop (mkF m 5 #[.val (.ref a0), .val (.int p1)] [(.int wf), (.int p1)])) t → Steps p.tables e below (s₁.setTop (entryFrame m #[(.ref a0), (.int p1)] 2)) t := fun t k => pre53 _ (st54 t k)
  by_cases c56 : p1 < wf
  · have pre57 : ∀ t, Steps p.tables e below (T54.setTop (mkF m 20 #[.val (.ref a0), .val (.int p1)] [])) t → Steps p.tables e below (s₁.setTop (entryFrame m #[(.ref a0), (.int p1)] 2)) t := fun t k => by
      refine pre54 _ ?_
      show Steps p.tables e below (T54.setTop (mkF m 5 #[.val (.ref a0), .val (.int p1)] [(.int wf), (.int p1)])) _
      refine XS.icmpYes X54.here hx rfl (pc0 := 5) (pc' := 20) rfl (hb hby d5_5) rfl (tlt c56).1 (by decide) (by decide) ?_
      show Steps p.tables e below (T54.setTop (mkF m 20 #[.val (.ref a0), .val (.int p1)] [])) _
      exact k
    have pre58 : ∀ t, Steps p.tables e below (T54.setTop (mkF m 21 #[.val (.ref a0), .val (.int p1)] [(.int (0 : Int32))])) t → Steps p.tables e below (s₁.setTop (entryFrame m #[(.ref a0), (.int p1)] 2)) t := fun t k => by
      refine pre57 _ ?_
      show Steps p.tables e below (T54.setTop (mkF m 20 #[.val (.ref a0), .val (.int p1)] [])) _
      refine XS.iconst X54.here hx rfl (hb hby d5_20) ?_
      show Steps p.tables e below (T54.setTop (mkF m 21 #[.val (.ref a0), .val (.int p1)] [(.int (0 : Int32))])) _
      exact k
    obtain ⟨fs, hr, hrun, hended, hW, hsame⟩ := X54.leave (v := some (.int (0 : Int32))) (fun h => by rw [Bd.returns] at h; cases h)
    refine ⟨_, _, pre58 _ ?_, hrun, hended, _, _, rfl, ?_, ⟨_, rfl⟩, hW, hsame.mono (by decide) (by decide)⟩
    · show Steps p.tables e below (T54.setTop (mkF m 21 #[.val (.ref a0), .val (.int p1)] [(.int (0 : Int32))])) _
      exact retN X54 hx (t := .boolean) Bd.returns (by simp) (hb hby d5_21) hr
    · have hv : f5 p1 wf we = (0 : Int32) := by unfold f5; rw [if_pos c56]
      show Q5 p1 wf we h0 n0 _ T54.heap _
      rw [e54]
      exact ⟨by rw [hv], N0, rfl⟩
  · have pre59 : ∀ t, Steps p.tables e below (T54.setTop (mkF m 8 #[.val (.ref a0), .val (.int p1)] [])) t → Steps p.tables e below (s₁.setTop (entryFrame m #[(.ref a0), (.int p1)] 2)) t := fun t k => by
      refine pre54 _ ?_
      show Steps p.tables e below (T54.setTop (mkF m 5 #[.val (.ref a0), .val (.int p1)] [(.int wf), (.int p1)])) _
      refine XS.icmpNo X54.here hx rfl (hb hby d5_5) rfl (flt c56).1 ?_
      show Steps p.tables e below (T54.setTop (mkF m 8 #[.val (.ref a0), .val (.int p1)] [])) _
      exact k
    have pre60 : ∀ t, Steps p.tables e below (T54.setTop (mkF m 10 #[.val (.ref a0), .val (.int p1)] [(.ref a0), (.int p1)])) t → Steps p.tables e below (s₁.setTop (entryFrame m #[(.ref a0), (.int p1)] 2)) t := fun t k => by
      refine pre59 _ ?_
      show Steps p.tables e below (T54.setTop (mkF m 8 #[.val (.ref a0), .val (.int p1)] [])) _
      refine XS.iloadN X54.here hx rfl (hb hby d5_8) rfl ?_
      show Steps p.tables e below (T54.setTop (mkF m 9 #[.val (.ref a0), .val (.int p1)] [(.int p1)])) _
      refine XS.aloadN X54.here hx rfl (hb hby d5_9) rfl rfl ?_
      show Steps p.tables e below (T54.setTop (mkF m 10 #[.val (.ref a0), .val (.int p1)] [(.ref a0), (.int p1)])) _
      exact k
    obtain ⟨T61, X61, e61, st61⟩ := getF X54 hx hZ hown (host := "") (Or.inl (hw _ (List.mem_of_getElem? (i := 24) rfl))) Via.refl e54 F_end (g := (mkF m 10 #[.val (.ref a0), .val (.int p1)] [(.ref a0), (.int p1)])) rfl rfl (hb hby d5_10)
    have pre61 : ∀ t, Steps p.tables e below (T61.setTop (mkF m 13 #[.val (.ref a0), .val (.int p1)] [(.int we), (.int p1)])) t → Steps p.tables e below (s₁.setTop (entryFrame m #[(.ref a0), (.int p1)] 2)) t := fun t k => pre60 _ (st61 t k)
    by_cases c63 : p1 < we
    · have pre64 : ∀ t, Steps p.tables e below (T61.setTop (mkF m 16 #[.val (.ref a0), .val (.int p1)] [])) t → Steps p.tables e below (s₁.setTop (entryFrame m #[(.ref a0), (.int p1)] 2)) t := fun t k => by
        refine pre61 _ ?_
        show Steps p.tables e below (T61.setTop (mkF m 13 #[.val (.ref a0), .val (.int p1)] [(.int we), (.int p1)])) _
        refine XS.icmpNo X61.here hx rfl (hb hby d5_13) rfl (tlt c63).2.1 ?_
        show Steps p.tables e below (T61.setTop (mkF m 16 #[.val (.ref a0), .val (.int p1)] [])) _
        exact k
      have pre65 : ∀ t, Steps p.tables e below (T61.setTop (mkF m 21 #[.val (.ref a0), .val (.int p1)] [(.int (1 : Int32))])) t → Steps p.tables e below (s₁.setTop (entryFrame m #[(.ref a0), (.int p1)] 2)) t := fun t k => by
        refine pre64 _ ?_
        show Steps p.tables e below (T61.setTop (mkF m 16 #[.val (.ref a0), .val (.int p1)] [])) _
        refine XS.iconst X61.here hx rfl (hb hby d5_16) ?_
        show Steps p.tables e below (T61.setTop (mkF m 17 #[.val (.ref a0), .val (.int p1)] [(.int (1 : Int32))])) _
        refine XS.goto X61.here hx rfl (pc0 := 17) (pc' := 21) rfl (hb hby d5_17) (by decide) (by decide) ?_
        show Steps p.tables e below (T61.setTop (mkF m 21 #[.val (.ref a0), .val (.int p1)] [(.int (1 : Int32))])) _
        exact k
      obtain ⟨fs, hr, hrun, hended, hW, hsame⟩ := X61.leave (v := some (.int (1 : Int32))) (fun h => by rw [Bd.returns] at h; cases h)
      refine ⟨_, _, pre65 _ ?_, hrun, hended, _, _, rfl, ?_, ⟨_, rfl⟩, hW, hsame.mono (by decide) (by decide)⟩
      · show Steps p.tables e below (T61.setTop (mkF m 21 #[.val (.ref a0), .val (.int p1)] [(.int (1 : Int32))])) _
        exact retN X61 hx (t := .boolean) Bd.returns (by simp) (hb hby d5_21) hr
      · have hv : f5 p1 wf we = (1 : Int32) := by unfold f5; rw [if_neg c56, if_pos c63]
        show Q5 p1 wf we h0 n0 _ T61.heap _
        rw [e61]
        exact ⟨by rw [hv], N0, rfl⟩
    · have pre66 : ∀ t, Steps p.tables e below (T61.setTop (mkF m 20 #[.val (.ref a0), .val (.int p1)] [])) t → Steps p.tables e below (s₁.setTop (entryFrame m #[(.ref a0), (.int p1)] 2)) t := fun t k => by
        refine pre61 _ ?_
        show Steps p.tables e below (T61.setTop (mkF m 13 #[.val (.ref a0), .val (.int p1)] [(.int we), (.int p1)])) _
        refine XS.icmpYes X61.here hx rfl (pc0 := 13) (pc' := 20) rfl (hb hby d5_13) rfl (flt c63).2.1 (by decide) (by decide) ?_
        show Steps p.tables e below (T61.setTop (mkF m 20 #[.val (.ref a0), .val (.int p1)] [])) _
        exact k
      have pre67 : ∀ t, Steps p.tables e below (T61.setTop (mkF m 21 #[.val (.ref a0), .val (.int p1)] [(.int (0 : Int32))])) t → Steps p.tables e below (s₁.setTop (entryFrame m #[(.ref a0), (.int p1)] 2)) t := fun t k => by
        refine pre66 _ ?_
        show Steps p.tables e below (T61.setTop (mkF m 20 #[.val (.ref a0), .val (.int p1)] [])) _
        refine XS.iconst X61.here hx rfl (hb hby d5_20) ?_
        show Steps p.tables e below (T61.setTop (mkF m 21 #[.val (.ref a0), .val (.int p1)] [(.int (0 : Int32))])) _
        exact k
      obtain ⟨fs, hr, hrun, hended, hW, hsame⟩ := X61.leave (v := some (.int (0 : Int32))) (fun h => by rw [Bd.returns] at h; cases h)
      refine ⟨_, _, pre67 _ ?_, hrun, hended, _, _, rfl, ?_, ⟨_, rfl⟩, hW, hsame.mono (by decide) (by decide)⟩
      · show Steps p.tables e below (T61.setTop (mkF m 21 #[.val (.ref a0), .val (.int p1)] [(.int (0 : Int32))])) _
        exact retN X61 hx (t := .boolean) Bd.returns (by simp) (hb hby d5_21) hr
      · have hv : f5 p1 wf we = (0 : Int32) := by unfold f5; rw [if_neg c56, if_neg c63]
        show Q5 p1 wf we h0 n0 _ T61.heap _
        rw [e61]
        exact ⟨by rw [hv], N0, rfl⟩
theorem own_law (p f e : Int32) : f5 p f e = if (p.toInt64 - f.toInt64) < (0 : Int64) then (0 : Int32) else if (p.toInt64 - f.toInt64) < (e.toInt64 - f.toInt64) then (1 : Int32) else (0 : Int32) := by
  have a1 := p.toInt_lt
  have a2 := p.le_toInt
  have b1 := f.toInt_lt
  have b2 := f.le_toInt
  have c1 := e.toInt_lt
  have c2 := e.le_toInt
  have h1 := Int32.toInt_toInt64 p
  have h2 := Int32.toInt_toInt64 f
  have h3 := Int32.toInt_toInt64 e
  have k0 : (0 : Int64).toInt = 0 := by decide
  have d1 : (p.toInt64 - f.toInt64).toInt = p.toInt - f.toInt := by rw [Jvm.Kit.i64_sub (by omega) (by omega), h1, h2]
  have d2 : (e.toInt64 - f.toInt64).toInt = e.toInt - f.toInt := by rw [Jvm.Kit.i64_sub (by omega) (by omega), h3, h2]
  unfold f5
  simp only [Int64.lt_iff_toInt_lt, Int32.lt_iff_toInt_lt, d1, d2, k0]
  have i1 : p.toInt - f.toInt < 0 ↔ p.toInt < f.toInt := by omega
  have i2 : p.toInt - f.toInt < e.toInt - f.toInt ↔ p.toInt < e.toInt := by omega
  simp only [i1, i2]
theorem ef_0 (m : MethodId) (x0 : Int32) (x1 : Int32) (x2 : Int32) (x3 : Int32) : entryFrame m #[(.int x0), (.int x1), (.int x2), (.int x3)] maxLocals = mkF m 0 #[.val (.int x0), .val (.int x1), .val (.int x2), .val (.int x3), .unset, .unset, .unset, .unset, .unset, .unset, .unset, .unset] [] := by first | (simp [entryFrame, mkF, argsToLocals, Value.category, maxLocals]; done) | rfl
def Q0 (fv : Int32) (ev : Int32) (iv : Int32) (sv : Int32) (h0 : Heap) (n0 : Nat) (v : Option Value) (h : Heap) (L : List Loc) : Prop := v = some (.int (1 : Int32)) ∧ Fr n0 L
set_option maxRecDepth 65536 in
set_option maxHeartbeats 40000000 in
theorem rm0 (l : Launch) (Z : State) (aZ : Array Value) (hw : ∀ d ∈ tables_1, d.before aZ Z = true) (ws : List Jvm.Cond) (fv : Int32) (ev : Int32) (iv : Int32) (sv : Int32)  (h0 : Heap) (n0 : Nat) (Z0 : n0 ≤ h0.size)  :
    MetFree l x (head1 (Jvm.Cond.code x code maxLocals ret :: ws) room_1) (fun a U => a = #[(.int fv), (.int ev), (.int iv), (.int sv)] ∧ Z.Warmed39 U.vm ∧ U.heap = h0) (fun _ _ _ _ _ => True) (fun _ U o U' => ∃ v L, o = .returned v ∧ Q0 fv ev iv sv h0 n0 v U'.heap L ∧ FrameEnd U o U' L room_1.cells room_1.slots) := by
  refine MetFree.of_bodySF (plainFor_of_name pn_1) hisR ?_
  intro p e s m args below meth c s₁ Bd hml0 hP hK
  obtain ⟨rfl, hZ, hh⟩ := hP
  have hx := Bd.exec
  have hby := Bd.bytes
  have hml : c.maxLocals = 12 := hml0
  have hown : s.vm.findClass "com/example/tideway/tideway/ReplanCoversPinLaw" = some m.cls := findClass_of_methodNamed Bd.named
  have hnm := (name_of_methodNamed Bd.named Bd.method).1
  have X0 : Stand p l e room_1 s m #[(.int fv), (.int ev), (.int iv), (.int sv)] below meth c s₁ [] 0 0 := Stand.of_body Bd
  have e0 : s₁.heap = h0 := by rw [← hh, Bd.state]; rfl
  have N0 := Fr.nil n0
  have pre0 : ∀ t, Steps p.tables e below (s₁.setTop (mkF m 0 #[.val (.int fv), .val (.int ev), .val (.int iv), .val (.int sv), .unset, .unset, .unset, .unset, .unset, .unset, .unset, .unset] [])) t → Steps p.tables e below (s₁.setTop (entryFrame m #[(.int fv), (.int ev), (.int iv), (.int sv)] maxLocals)) t := fun t k => castTop (ef_0 m fv ev iv sv) k
  have pre68 : ∀ t, Steps p.tables e below (s₁.setTop (mkF m 7 #[.val (.int fv), .val (.int ev), .val (.int iv), .val (.int sv), .unset, .unset, .unset, .unset, .unset, .unset, .unset, .unset] [(.int (sv &&& (7 : Int32))), (.int iv), (.int ev), (.int fv)])) t → Steps p.tables e below (s₁.setTop (entryFrame m #[(.int fv), (.int ev), (.int iv), (.int sv)] maxLocals)) t := fun t k => by
    refine pre0 _ ?_
    show Steps p.tables e below (s₁.setTop (mkF m 0 #[.val (.int fv), .val (.int ev), .val (.int iv), .val (.int sv), .unset, .unset, .unset, .unset, .unset, .unset, .unset, .unset] [])) _
    refine XS.iloadN X0.here hx rfl (hb hby at_0) rfl ?_
    show Steps p.tables e below (s₁.setTop (mkF m 1 #[.val (.int fv), .val (.int ev), .val (.int iv), .val (.int sv), .unset, .unset, .unset, .unset, .unset, .unset, .unset, .unset] [(.int fv)])) _
    refine XS.iloadN X0.here hx rfl (hb hby at_1) rfl ?_
    show Steps p.tables e below (s₁.setTop (mkF m 2 #[.val (.int fv), .val (.int ev), .val (.int iv), .val (.int sv), .unset, .unset, .unset, .unset, .unset, .unset, .unset, .unset] [(.int ev), (.int fv)])) _
    refine XS.iloadN X0.here hx rfl (hb hby at_2) rfl ?_
    show Steps p.tables e below (s₁.setTop (mkF m 3 #[.val (.int fv), .val (.int ev), .val (.int iv), .val (.int sv), .unset, .unset, .unset, .unset, .unset, .unset, .unset, .unset] [(.int iv), (.int ev), (.int fv)])) _
    refine XS.iloadN X0.here hx rfl (hb hby at_3) rfl ?_
    show Steps p.tables e below (s₁.setTop (mkF m 4 #[.val (.int fv), .val (.int ev), .val (.int iv), .val (.int sv), .unset, .unset, .unset, .unset, .unset, .unset, .unset, .unset] [(.int sv), (.int iv), (.int ev), (.int fv)])) _
    refine XS.bipush X0.here hx rfl (hb hby at_4) ?_
    show Steps p.tables e below (s₁.setTop (mkF m 6 #[.val (.int fv), .val (.int ev), .val (.int iv), .val (.int sv), .unset, .unset, .unset, .unset, .unset, .unset, .unset, .unset] [(.int (7 : Int32)), (.int sv), (.int iv), (.int ev), (.int fv)])) _
    refine XS.iand X0.here hx rfl (hb hby at_6) rfl ?_
    show Steps p.tables e below (s₁.setTop (mkF m 7 #[.val (.int fv), .val (.int ev), .val (.int iv), .val (.int sv), .unset, .unset, .unset, .unset, .unset, .unset, .unset, .unset] [(.int (sv &&& (7 : Int32))), (.int iv), (.int ev), (.int fv)])) _
    exact k
  obtain ⟨_, _, ⟨T69, L69, k69, n69⟩, -, X69, ⟨Lc69, hQ69, l69, y69, z69⟩, st69⟩ := Jvm.LawKit.callS X0 hx (y := (⟨"com/example/tideway/tideway/ReplanCoversPinLaw", "probe", "(IIII)I"⟩ : MethodName)) hown (mvT hZ (hw _ (List.mem_of_getElem? (i := 0) rfl))) (mvT hZ (hw _ (List.mem_of_getElem? (i := 1) rfl))) (mvT hZ (hw _ (List.mem_of_getElem? (i := 2) rfl))) (mvT hZ (hw _ (List.mem_of_getElem? (i := 3) rfl))) (by decide) (backOf (W := 0) (rm1 l Z aZ hw [] fv ev iv (sv &&& (7 : Int32))  h0 n0 Z0 ) hZ (hw _ (List.mem_of_getElem? (i := 3) rfl)) (hw _ (List.mem_of_getElem? (i := 2) rfl)) (by decide) (by decide)) (g := (mkF m 7 #[.val (.int fv), .val (.int ev), .val (.int iv), .val (.int sv), .unset, .unset, .unset, .unset, .unset, .unset, .unset, .unset] [(.int (sv &&& (7 : Int32))), (.int iv), (.int ev), (.int fv)])) rfl (by rw [hml]; rfl) (argsL := [(.int fv), (.int ev), (.int iv), (.int (sv &&& (7 : Int32)))]) (rest := []) (lenOf pd_0 rfl) rfl (by show 2 * 0 + _ ≤ _; exact Nat.le_of_eq rfl) (hb hby at_7) (fun _ _ => ⟨rfl, e0, (by decide : 0 + 0 ≤ _), (by decide : 0 + 0 ≤ _)⟩)
  dsimp only [Pt.U, Pt.locs, Pt.cells, Pt.slots] at X69 l69 y69 z69 st69 hQ69
  subst l69 y69 z69
  obtain ⟨rfl, N69q, e69⟩ := hQ69
  have N69 := Fr.app N0 N69q
  have pre69 : ∀ t, Steps p.tables e below (T69.setTop (mkF m 10 #[.val (.int fv), .val (.int ev), .val (.int iv), .val (.int sv), .unset, .unset, .unset, .unset, .unset, .unset, .unset, .unset] [(.int (f1 fv ev iv (sv &&& (7 : Int32))))])) t → Steps p.tables e below (s₁.setTop (entryFrame m #[(.int fv), (.int ev), (.int iv), (.int sv)] maxLocals)) t := fun t k => pre68 _ (st69 t k)
  have pre70 : ∀ t, Steps p.tables e below (T69.setTop (mkF m 12 #[.val (.int fv), .val (.int ev), .val (.int iv), .val (.int sv), .val (.int (f1 fv ev iv (sv &&& (7 : Int32)))), .unset, .unset, .unset, .unset, .unset, .unset, .unset] [])) t → Steps p.tables e below (s₁.setTop (entryFrame m #[(.int fv), (.int ev), (.int iv), (.int sv)] maxLocals)) t := fun t k => by
    refine pre69 _ ?_
    show Steps p.tables e below (T69.setTop (mkF m 10 #[.val (.int fv), .val (.int ev), .val (.int iv), .val (.int sv), .unset, .unset, .unset, .unset, .unset, .unset, .unset, .unset] [(.int (f1 fv ev iv (sv &&& (7 : Int32))))])) _
    refine XS.istore X69.here hx rfl (hb hby at_10) rfl (l' := #[.val (.int fv), .val (.int ev), .val (.int iv), .val (.int sv), .val (.int (f1 fv ev iv (sv &&& (7 : Int32)))), .unset, .unset, .unset, .unset, .unset, .unset, .unset]) rfl ?_
    show Steps p.tables e below (T69.setTop (mkF m 12 #[.val (.int fv), .val (.int ev), .val (.int iv), .val (.int sv), .val (.int (f1 fv ev iv (sv &&& (7 : Int32)))), .unset, .unset, .unset, .unset, .unset, .unset, .unset] [])) _
    exact k
  obtain ⟨T71, h71, X71, e71, E71, A71, D71, -, st71⟩ := newO X69 hx hZ hown (hw _ (List.mem_of_getElem? (i := 4) rfl)) (hw _ (List.mem_of_getElem? (i := 5) rfl)) (hw _ (List.mem_of_getElem? (i := 6) rfl)) e69 (g := (mkF m 12 #[.val (.int fv), .val (.int ev), .val (.int iv), .val (.int sv), .val (.int (f1 fv ev iv (sv &&& (7 : Int32)))), .unset, .unset, .unset, .unset, .unset, .unset, .unset] [])) rfl (hb hby at_12) (by decide) (by decide)
  obtain ⟨b71, g71⟩ : ∃ z, z = h0.size := ⟨_, rfl⟩
  have g_b71 : n0 ≤ b71 := Nat.le_trans Z0 (Nat.le_of_eq g71.symm)
  have sz_b71 : h0.size ≤ b71 := Nat.le_of_eq g71.symm
  rw [← g71] at A71 D71 st71
  have Zs71 : n0 ≤ h71.size := Nat.le_trans Z0 E71.1
  have K0 := Keep.refl h0 []
  have K71 := K0.ext E71
  have F_request_b71 : Fld Z h71 b71 "com/example/tideway/tideway/Replan$Planned" "request" "Lcom/example/tideway/tideway/Request$Transfer;" .null := D71 (Or.inr (hw _ (List.mem_of_getElem? (i := 19) rfl))) (ty := (.object "com/example/tideway/tideway/Request$Transfer")) (by decide)
  have F_routes_b71 : Fld Z h71 b71 "com/example/tideway/tideway/Replan$Planned" "routes" "Ljava/util/List;" .null := D71 (Or.inr (hw _ (List.mem_of_getElem? (i := 21) rfl))) (ty := (.object "java/util/List")) (by decide)
  have F_first_b71 : Fld Z h71 b71 "com/example/tideway/tideway/Replan$Planned" "first" "I" (.int (0 : Int32)) := D71 (Or.inr (hw _ (List.mem_of_getElem? (i := 23) rfl))) (ty := .int) (by decide)
  have F_end_b71 : Fld Z h71 b71 "com/example/tideway/tideway/Replan$Planned" "end" "I" (.int (0 : Int32)) := D71 (Or.inr (hw _ (List.mem_of_getElem? (i := 25) rfl))) (ty := .int) (by decide)
  have pre71 : ∀ t, Steps p.tables e below (T71.setTop (mkF m 15 #[.val (.int fv), .val (.int ev), .val (.int iv), .val (.int sv), .val (.int (f1 fv ev iv (sv &&& (7 : Int32)))), .unset, .unset, .unset, .unset, .unset, .unset, .unset] [(.ref b71)])) t → Steps p.tables e below (s₁.setTop (entryFrame m #[(.int fv), (.int ev), (.int iv), (.int sv)] maxLocals)) t := fun t k => pre70 _ (st71 t k)
  have pre72 : ∀ t, Steps p.tables e below (T71.setTop (mkF m 20 #[.val (.int fv), .val (.int ev), .val (.int iv), .val (.int sv), .val (.int (f1 fv ev iv (sv &&& (7 : Int32)))), .unset, .unset, .unset, .unset, .unset, .unset, .unset] [(.int ev), (.int fv), .null, .null, (.ref b71), (.ref b71)])) t → Steps p.tables e below (s₁.setTop (entryFrame m #[(.int fv), (.int ev), (.int iv), (.int sv)] maxLocals)) t := fun t k => by
    refine pre71 _ ?_
    show Steps p.tables e below (T71.setTop (mkF m 15 #[.val (.int fv), .val (.int ev), .val (.int iv), .val (.int sv), .val (.int (f1 fv ev iv (sv &&& (7 : Int32)))), .unset, .unset, .unset, .unset, .unset, .unset, .unset] [(.ref b71)])) _
    refine XS.dup X71.here hx rfl (hb hby at_15) rfl rfl ?_
    show Steps p.tables e below (T71.setTop (mkF m 16 #[.val (.int fv), .val (.int ev), .val (.int iv), .val (.int sv), .val (.int (f1 fv ev iv (sv &&& (7 : Int32)))), .unset, .unset, .unset, .unset, .unset, .unset, .unset] [(.ref b71), (.ref b71)])) _
    refine XS.aconstNull X71.here hx rfl (hb hby at_16) ?_
    show Steps p.tables e below (T71.setTop (mkF m 17 #[.val (.int fv), .val (.int ev), .val (.int iv), .val (.int sv), .val (.int (f1 fv ev iv (sv &&& (7 : Int32)))), .unset, .unset, .unset, .unset, .unset, .unset, .unset] [.null, (.ref b71), (.ref b71)])) _
    refine XS.aconstNull X71.here hx rfl (hb hby at_17) ?_
    show Steps p.tables e below (T71.setTop (mkF m 18 #[.val (.int fv), .val (.int ev), .val (.int iv), .val (.int sv), .val (.int (f1 fv ev iv (sv &&& (7 : Int32)))), .unset, .unset, .unset, .unset, .unset, .unset, .unset] [.null, .null, (.ref b71), (.ref b71)])) _
    refine XS.iloadN X71.here hx rfl (hb hby at_18) rfl ?_
    show Steps p.tables e below (T71.setTop (mkF m 19 #[.val (.int fv), .val (.int ev), .val (.int iv), .val (.int sv), .val (.int (f1 fv ev iv (sv &&& (7 : Int32)))), .unset, .unset, .unset, .unset, .unset, .unset, .unset] [(.int fv), .null, .null, (.ref b71), (.ref b71)])) _
    refine XS.iloadN X71.here hx rfl (hb hby at_19) rfl ?_
    show Steps p.tables e below (T71.setTop (mkF m 20 #[.val (.int fv), .val (.int ev), .val (.int iv), .val (.int sv), .val (.int (f1 fv ev iv (sv &&& (7 : Int32)))), .unset, .unset, .unset, .unset, .unset, .unset, .unset] [(.int ev), (.int fv), .null, .null, (.ref b71), (.ref b71)])) _
    exact k
  obtain ⟨_, _, ⟨T73, L73, k73, n73⟩, -, X73, ⟨Lc73, hQ73, l73, y73, z73⟩, st73⟩ := X71.specialBack hx (y := (⟨"com/example/tideway/tideway/Replan$Planned", "<init>", "(Lcom/example/tideway/tideway/Request$Transfer;Ljava/util/List;II)V"⟩ : MethodName)) rfl hown (mvT hZ (hw _ (List.mem_of_getElem? (i := 7) rfl))) (mvT hZ (hw _ (List.mem_of_getElem? (i := 8) rfl))) (mvT hZ (hw _ (List.mem_of_getElem? (i := 9) rfl))) (by decide) (backOf (W := 1) (rm2 l Z aZ hw [] b71 fv ev  h71 n0 Zs71 F_request_b71 F_routes_b71 F_first_b71 F_end_b71 A71 g_b71) hZ (hw _ (List.mem_of_getElem? (i := 9) rfl)) (hw _ (List.mem_of_getElem? (i := 6) rfl)) (by decide) (by decide)) (g := (mkF m 20 #[.val (.int fv), .val (.int ev), .val (.int iv), .val (.int sv), .val (.int (f1 fv ev iv (sv &&& (7 : Int32)))), .unset, .unset, .unset, .unset, .unset, .unset, .unset] [(.int ev), (.int fv), .null, .null, (.ref b71), (.ref b71)])) rfl (by rw [hml]; rfl) (Steps.refl _) (a := b71) (argsL := [.null, .null, (.int fv), (.int ev)]) (rest := [(.ref b71)]) (lenOf pd_1 rfl) rfl (by show 2 * 0 + _ ≤ _; exact Nat.le_of_eq rfl) (hb hby at_20) (fun _ _ => ⟨rfl, e71, (by decide : 1 + 0 ≤ _), (by decide : 4 + 0 ≤ _)⟩)
  dsimp only [Pt.U, Pt.locs, Pt.cells, Pt.slots] at X73 l73 y73 z73 st73 hQ73
  subst l73 y73 z73
  obtain ⟨rfl, N73q, Kc73, Ex73, Fc73_request, Fc73_routes, Fc73_first, Fc73_end⟩ := hQ73
  have N73 := Fr.app N69 N73q
  have pre73 : ∀ t, Steps p.tables e below (T73.setTop (mkF m 23 #[.val (.int fv), .val (.int ev), .val (.int iv), .val (.int sv), .val (.int (f1 fv ev iv (sv &&& (7 : Int32)))), .unset, .unset, .unset, .unset, .unset, .unset, .unset] [(.ref b71)])) t → Steps p.tables e below (s₁.setTop (entryFrame m #[(.int fv), (.int ev), (.int iv), (.int sv)] maxLocals)) t := fun t k => pre72 _ (st73.trans k)
  have Zs73 : n0 ≤ T73.heap.size := Nat.le_trans Zs71 Kc73.1
  have F73_0 := A71.keep Kc73
  have K73 := K71.trans Kc73 (by intro x hx; simp only [List.mem_cons, List.not_mem_nil, or_false] at hx; rcases hx with rfl <;> first | exact Or.inr sz_b71)
  have pre74 : ∀ t, Steps p.tables e below (T73.setTop (mkF m 29 #[.val (.int fv), .val (.int ev), .val (.int iv), .val (.int sv), .val (.int (f1 fv ev iv (sv &&& (7 : Int32)))), .val (.ref b71), .unset, .unset, .unset, .unset, .unset, .unset] [(.int (f1 fv ev iv (sv &&& (7 : Int32)))), (.ref b71)])) t → Steps p.tables e below (s₁.setTop (entryFrame m #[(.int fv), (.int ev), (.int iv), (.int sv)] maxLocals)) t := fun t k => by
    refine pre73 _ ?_
    show Steps p.tables e below (T73.setTop (mkF m 23 #[.val (.int fv), .val (.int ev), .val (.int iv), .val (.int sv), .val (.int (f1 fv ev iv (sv &&& (7 : Int32)))), .unset, .unset, .unset, .unset, .unset, .unset, .unset] [(.ref b71)])) _
    refine XS.astore X73.here hx rfl (hb hby at_23) rfl rfl (l' := #[.val (.int fv), .val (.int ev), .val (.int iv), .val (.int sv), .val (.int (f1 fv ev iv (sv &&& (7 : Int32)))), .val (.ref b71), .unset, .unset, .unset, .unset, .unset, .unset]) rfl ?_
    show Steps p.tables e below (T73.setTop (mkF m 25 #[.val (.int fv), .val (.int ev), .val (.int iv), .val (.int sv), .val (.int (f1 fv ev iv (sv &&& (7 : Int32)))), .val (.ref b71), .unset, .unset, .unset, .unset, .unset, .unset] [])) _
    refine XS.aload X73.here hx rfl (hb hby at_25) rfl rfl ?_
    show Steps p.tables e below (T73.setTop (mkF m 27 #[.val (.int fv), .val (.int ev), .val (.int iv), .val (.int sv), .val (.int (f1 fv ev iv (sv &&& (7 : Int32)))), .val (.ref b71), .unset, .unset, .unset, .unset, .unset, .unset] [(.ref b71)])) _
    refine XS.iload X73.here hx rfl (hb hby at_27) rfl ?_
    show Steps p.tables e below (T73.setTop (mkF m 29 #[.val (.int fv), .val (.int ev), .val (.int iv), .val (.int sv), .val (.int (f1 fv ev iv (sv &&& (7 : Int32)))), .val (.ref b71), .unset, .unset, .unset, .unset, .unset, .unset] [(.int (f1 fv ev iv (sv &&& (7 : Int32)))), (.ref b71)])) _
    exact k
  obtain ⟨cq75, kq75, q75a, q75b, q75c⟩ := isOf hZ rfl Ex73
  obtain ⟨_, _, ⟨T75, L75, k75, n75⟩, -, X75, ⟨Lc75, hQ75, l75, y75, z75⟩, st75⟩ := X73.virtualBack hx (y := (⟨"com/example/tideway/tideway/Replan$Planned", "covers", "(I)Z"⟩ : MethodName)) (z := (⟨"com/example/tideway/tideway/Replan$Planned", "covers", "(I)Z"⟩ : MethodName)) hown (mvT hZ (hw _ (List.mem_of_getElem? (i := 26) rfl))) (mvT hZ (hw _ (List.mem_of_getElem? (i := 27) rfl))) (notFace_of_selects (args := #[]) (mvT hZ (hw _ (List.mem_of_getElem? (i := 29) rfl)))) (mvT hZ (hw _ (List.mem_of_getElem? (i := 29) rfl))) (mvT hZ (hw _ (List.mem_of_getElem? (i := 28) rfl))) (by decide) (backOf (W := 0) (rm5 l Z aZ hw [] b71 (f1 fv ev iv (sv &&& (7 : Int32))) fv ev T73.heap n0 Zs73 Fc73_first Fc73_end) hZ (hw _ (List.mem_of_getElem? (i := 30) rfl)) (hw _ (List.mem_of_getElem? (i := 6) rfl)) (by decide) (by decide)) q75a q75c (g := (mkF m 29 #[.val (.int fv), .val (.int ev), .val (.int iv), .val (.int sv), .val (.int (f1 fv ev iv (sv &&& (7 : Int32)))), .val (.ref b71), .unset, .unset, .unset, .unset, .unset, .unset] [(.int (f1 fv ev iv (sv &&& (7 : Int32)))), (.ref b71)])) rfl (by rw [hml]; rfl) (Steps.refl _) (argsL := [(.int (f1 fv ev iv (sv &&& (7 : Int32))))]) (rest := []) (lenOf pd_3 rfl) rfl (by show 2 * 0 + _ ≤ _; exact Nat.le_of_eq rfl) (hb hby at_29) (fun _ _ => ⟨rfl, rfl, (by decide : 1 + 0 ≤ _), (by decide : 4 + 0 ≤ _)⟩)
  dsimp only [Pt.U, Pt.locs, Pt.cells, Pt.slots] at X75 l75 y75 z75 st75 hQ75
  subst l75 y75 z75
  obtain ⟨rfl, N75q, e75⟩ := hQ75
  have N75 := Fr.app N73 N75q
  have pre75 : ∀ t, Steps p.tables e below (T75.setTop (mkF m 32 #[.val (.int fv), .val (.int ev), .val (.int iv), .val (.int sv), .val (.int (f1 fv ev iv (sv &&& (7 : Int32)))), .val (.ref b71), .unset, .unset, .unset, .unset, .unset, .unset] [(.int (f5 (f1 fv ev iv (sv &&& (7 : Int32))) fv ev))])) t → Steps p.tables e below (s₁.setTop (entryFrame m #[(.int fv), (.int ev), (.int iv), (.int sv)] maxLocals)) t := fun t k => pre74 _ (st75.trans k)
  have pre76 : ∀ t, Steps p.tables e below (T75.setTop (mkF m 34 #[.val (.int fv), .val (.int ev), .val (.int iv), .val (.int sv), .val (.int (f1 fv ev iv (sv &&& (7 : Int32)))), .val (.ref b71), .val (.int (f5 (f1 fv ev iv (sv &&& (7 : Int32))) fv ev)), .unset, .unset, .unset, .unset, .unset] [])) t → Steps p.tables e below (s₁.setTop (entryFrame m #[(.int fv), (.int ev), (.int iv), (.int sv)] maxLocals)) t := fun t k => by
    refine pre75 _ ?_
    show Steps p.tables e below (T75.setTop (mkF m 32 #[.val (.int fv), .val (.int ev), .val (.int iv), .val (.int sv), .val (.int (f1 fv ev iv (sv &&& (7 : Int32)))), .val (.ref b71), .unset, .unset, .unset, .unset, .unset, .unset] [(.int (f5 (f1 fv ev iv (sv &&& (7 : Int32))) fv ev))])) _
    refine XS.istore X75.here hx rfl (hb hby at_32) rfl (l' := #[.val (.int fv), .val (.int ev), .val (.int iv), .val (.int sv), .val (.int (f1 fv ev iv (sv &&& (7 : Int32)))), .val (.ref b71), .val (.int (f5 (f1 fv ev iv (sv &&& (7 : Int32))) fv ev)), .unset, .unset, .unset, .unset, .unset]) rfl ?_
    show Steps p.tables e below (T75.setTop (mkF m 34 #[.val (.int fv), .val (.int ev), .val (.int iv), .val (.int sv), .val (.int (f1 fv ev iv (sv &&& (7 : Int32)))), .val (.ref b71), .val (.int (f5 (f1 fv ev iv (sv &&& (7 : Int32))) fv ev)), .unset, .unset, .unset, .unset, .unset] [])) _
    exact k
  have hl := own_law (f1 fv ev iv (sv &&& (7 : Int32))) fv ev
  obtain ⟨fs, hr, hrun, hended, hW, hsame⟩ := X75.leave (v := some (.int (1 : Int32))) (fun h => by rw [Bd.returns] at h; cases h)
  refine ⟨_, _, pre76 _ ?_, hrun, hended, _, _, rfl, ?_, ⟨_, rfl⟩, hW, hsame.mono (by decide) (by decide)⟩
  · show Steps p.tables e below (T75.setTop (mkF m 34 #[.val (.int fv), .val (.int ev), .val (.int iv), .val (.int sv), .val (.int (f1 fv ev iv (sv &&& (7 : Int32)))), .val (.ref b71), .val (.int (f5 (f1 fv ev iv (sv &&& (7 : Int32))) fv ev)), .unset, .unset, .unset, .unset, .unset] [])) _
    refine XS.iload X75.here hx rfl (hb hby at_34) rfl ?_
    show Steps p.tables e below (T75.setTop (mkF m 36 #[.val (.int fv), .val (.int ev), .val (.int iv), .val (.int sv), .val (.int (f1 fv ev iv (sv &&& (7 : Int32)))), .val (.ref b71), .val (.int (f5 (f1 fv ev iv (sv &&& (7 : Int32))) fv ev)), .unset, .unset, .unset, .unset, .unset] [(.int (f1 fv ev iv (sv &&& (7 : Int32))))])) _
    refine XS.i2l X75.here hx rfl (hb hby at_36) rfl ?_
    show Steps p.tables e below (T75.setTop (mkF m 37 #[.val (.int fv), .val (.int ev), .val (.int iv), .val (.int sv), .val (.int (f1 fv ev iv (sv &&& (7 : Int32)))), .val (.ref b71), .val (.int (f5 (f1 fv ev iv (sv &&& (7 : Int32))) fv ev)), .unset, .unset, .unset, .unset, .unset] [(.long ((f1 fv ev iv (sv &&& (7 : Int32))).toInt64))])) _
    refine XS.iloadN X75.here hx rfl (hb hby at_37) rfl ?_
    show Steps p.tables e below (T75.setTop (mkF m 38 #[.val (.int fv), .val (.int ev), .val (.int iv), .val (.int sv), .val (.int (f1 fv ev iv (sv &&& (7 : Int32)))), .val (.ref b71), .val (.int (f5 (f1 fv ev iv (sv &&& (7 : Int32))) fv ev)), .unset, .unset, .unset, .unset, .unset] [(.int fv), (.long ((f1 fv ev iv (sv &&& (7 : Int32))).toInt64))])) _
    refine XS.i2l X75.here hx rfl (hb hby at_38) rfl ?_
    show Steps p.tables e below (T75.setTop (mkF m 39 #[.val (.int fv), .val (.int ev), .val (.int iv), .val (.int sv), .val (.int (f1 fv ev iv (sv &&& (7 : Int32)))), .val (.ref b71), .val (.int (f5 (f1 fv ev iv (sv &&& (7 : Int32))) fv ev)), .unset, .unset, .unset, .unset, .unset] [(.long (fv.toInt64)), (.long ((f1 fv ev iv (sv &&& (7 : Int32))).toInt64))])) _
    refine XS.lsub X75.here hx rfl (hb hby at_39) rfl ?_
    show Steps p.tables e below (T75.setTop (mkF m 40 #[.val (.int fv), .val (.int ev), .val (.int iv), .val (.int sv), .val (.int (f1 fv ev iv (sv &&& (7 : Int32)))), .val (.ref b71), .val (.int (f5 (f1 fv ev iv (sv &&& (7 : Int32))) fv ev)), .unset, .unset, .unset, .unset, .unset] [(.long (((f1 fv ev iv (sv &&& (7 : Int32))).toInt64) - (fv.toInt64)))])) _
    refine XS.lstore X75.here hx rfl (hb hby at_40) rfl (l' := #[.val (.int fv), .val (.int ev), .val (.int iv), .val (.int sv), .val (.int (f1 fv ev iv (sv &&& (7 : Int32)))), .val (.ref b71), .val (.int (f5 (f1 fv ev iv (sv &&& (7 : Int32))) fv ev)), .val (.long (((f1 fv ev iv (sv &&& (7 : Int32))).toInt64) - (fv.toInt64))), .second, .unset, .unset, .unset]) rfl ?_
    show Steps p.tables e below (T75.setTop (mkF m 42 #[.val (.int fv), .val (.int ev), .val (.int iv), .val (.int sv), .val (.int (f1 fv ev iv (sv &&& (7 : Int32)))), .val (.ref b71), .val (.int (f5 (f1 fv ev iv (sv &&& (7 : Int32))) fv ev)), .val (.long (((f1 fv ev iv (sv &&& (7 : Int32))).toInt64) - (fv.toInt64))), .second, .unset, .unset, .unset] [])) _
    refine XS.iloadN X75.here hx rfl (hb hby at_42) rfl ?_
    show Steps p.tables e below (T75.setTop (mkF m 43 #[.val (.int fv), .val (.int ev), .val (.int iv), .val (.int sv), .val (.int (f1 fv ev iv (sv &&& (7 : Int32)))), .val (.ref b71), .val (.int (f5 (f1 fv ev iv (sv &&& (7 : Int32))) fv ev)), .val (.long (((f1 fv ev iv (sv &&& (7 : Int32))).toInt64) - (fv.toInt64))), .second, .unset, .unset, .unset] [(.int ev)])) _
    refine XS.i2l X75.here hx rfl (hb hby at_43) rfl ?_
    show Steps p.tables e below (T75.setTop (mkF m 44 #[.val (.int fv), .val (.int ev), .val (.int iv), .val (.int sv), .val (.int (f1 fv ev iv (sv &&& (7 : Int32)))), .val (.ref b71), .val (.int (f5 (f1 fv ev iv (sv &&& (7 : Int32))) fv ev)), .val (.long (((f1 fv ev iv (sv &&& (7 : Int32))).toInt64) - (fv.toInt64))), .second, .unset, .unset, .unset] [(.long (ev.toInt64))])) _
    refine XS.iloadN X75.here hx rfl (hb hby at_44) rfl ?_
    show Steps p.tables e below (T75.setTop (mkF m 45 #[.val (.int fv), .val (.int ev), .val (.int iv), .val (.int sv), .val (.int (f1 fv ev iv (sv &&& (7 : Int32)))), .val (.ref b71), .val (.int (f5 (f1 fv ev iv (sv &&& (7 : Int32))) fv ev)), .val (.long (((f1 fv ev iv (sv &&& (7 : Int32))).toInt64) - (fv.toInt64))), .second, .unset, .unset, .unset] [(.int fv), (.long (ev.toInt64))])) _
    refine XS.i2l X75.here hx rfl (hb hby at_45) rfl ?_
    show Steps p.tables e below (T75.setTop (mkF m 46 #[.val (.int fv), .val (.int ev), .val (.int iv), .val (.int sv), .val (.int (f1 fv ev iv (sv &&& (7 : Int32)))), .val (.ref b71), .val (.int (f5 (f1 fv ev iv (sv &&& (7 : Int32))) fv ev)), .val (.long (((f1 fv ev iv (sv &&& (7 : Int32))).toInt64) - (fv.toInt64))), .second, .unset, .unset, .unset] [(.long (fv.toInt64)), (.long (ev.toInt64))])) _
    refine XS.lsub X75.here hx rfl (hb hby at_46) rfl ?_
    show Steps p.tables e below (T75.setTop (mkF m 47 #[.val (.int fv), .val (.int ev), .val (.int iv), .val (.int sv), .val (.int (f1 fv ev iv (sv &&& (7 : Int32)))), .val (.ref b71), .val (.int (f5 (f1 fv ev iv (sv &&& (7 : Int32))) fv ev)), .val (.long (((f1 fv ev iv (sv &&& (7 : Int32))).toInt64) - (fv.toInt64))), .second, .unset, .unset, .unset] [(.long ((ev.toInt64) - (fv.toInt64)))])) _
    refine XS.lstore X75.here hx rfl (hb hby at_47) rfl (l' := #[.val (.int fv), .val (.int ev), .val (.int iv), .val (.int sv), .val (.int (f1 fv ev iv (sv &&& (7 : Int32)))), .val (.ref b71), .val (.int (f5 (f1 fv ev iv (sv &&& (7 : Int32))) fv ev)), .val (.long (((f1 fv ev iv (sv &&& (7 : Int32))).toInt64) - (fv.toInt64))), .second, .val (.long ((ev.toInt64) - (fv.toInt64))), .second, .unset]) rfl ?_
    show Steps p.tables e below (T75.setTop (mkF m 49 #[.val (.int fv), .val (.int ev), .val (.int iv), .val (.int sv), .val (.int (f1 fv ev iv (sv &&& (7 : Int32)))), .val (.ref b71), .val (.int (f5 (f1 fv ev iv (sv &&& (7 : Int32))) fv ev)), .val (.long (((f1 fv ev iv (sv &&& (7 : Int32))).toInt64) - (fv.toInt64))), .second, .val (.long ((ev.toInt64) - (fv.toInt64))), .second, .unset] [])) _
    refine XS.lload X75.here hx rfl (hb hby at_49) rfl ?_
    show Steps p.tables e below (T75.setTop (mkF m 51 #[.val (.int fv), .val (.int ev), .val (.int iv), .val (.int sv), .val (.int (f1 fv ev iv (sv &&& (7 : Int32)))), .val (.ref b71), .val (.int (f5 (f1 fv ev iv (sv &&& (7 : Int32))) fv ev)), .val (.long (((f1 fv ev iv (sv &&& (7 : Int32))).toInt64) - (fv.toInt64))), .second, .val (.long ((ev.toInt64) - (fv.toInt64))), .second, .unset] [(.long (((f1 fv ev iv (sv &&& (7 : Int32))).toInt64) - (fv.toInt64)))])) _
    refine XS.lconst X75.here hx rfl (hb hby at_51) ?_
    show Steps p.tables e below (T75.setTop (mkF m 52 #[.val (.int fv), .val (.int ev), .val (.int iv), .val (.int sv), .val (.int (f1 fv ev iv (sv &&& (7 : Int32)))), .val (.ref b71), .val (.int (f5 (f1 fv ev iv (sv &&& (7 : Int32))) fv ev)), .val (.long (((f1 fv ev iv (sv &&& (7 : Int32))).toInt64) - (fv.toInt64))), .second, .val (.long ((ev.toInt64) - (fv.toInt64))), .second, .unset] [(.long (0 : Int64)), (.long (((f1 fv ev iv (sv &&& (7 : Int32))).toInt64) - (fv.toInt64)))])) _
    refine XS.lcmp X75.here hx rfl (hb hby at_52) rfl ?_
    show Steps p.tables e below (T75.setTop (mkF m 53 #[.val (.int fv), .val (.int ev), .val (.int iv), .val (.int sv), .val (.int (f1 fv ev iv (sv &&& (7 : Int32)))), .val (.ref b71), .val (.int (f5 (f1 fv ev iv (sv &&& (7 : Int32))) fv ev)), .val (.long (((f1 fv ev iv (sv &&& (7 : Int32))).toInt64) - (fv.toInt64))), .second, .val (.long ((ev.toInt64) - (fv.toInt64))), .second, .unset] [(.int (lcmpW (((f1 fv ev iv (sv &&& (7 : Int32))).toInt64) - (fv.toInt64)) (0 : Int64)))])) _
    by_cases c77 : (((f1 fv ev iv (sv &&& (7 : Int32))).toInt64) - (fv.toInt64)) < (0 : Int64)
    · refine XS.ifYes X75.here hx rfl (pc0 := 53) (pc' := 68) rfl (hb hby at_53) rfl ((if0 _ _).trans (tlt ((lw_lt (((f1 fv ev iv (sv &&& (7 : Int32))).toInt64) - (fv.toInt64)) (0 : Int64)).mpr c77)).1) (by decide) (by decide) ?_
      show Steps p.tables e below (T75.setTop (mkF m 68 #[.val (.int fv), .val (.int ev), .val (.int iv), .val (.int sv), .val (.int (f1 fv ev iv (sv &&& (7 : Int32)))), .val (.ref b71), .val (.int (f5 (f1 fv ev iv (sv &&& (7 : Int32))) fv ev)), .val (.long (((f1 fv ev iv (sv &&& (7 : Int32))).toInt64) - (fv.toInt64))), .second, .val (.long ((ev.toInt64) - (fv.toInt64))), .second, .unset] [])) _
      refine XS.iconst X75.here hx rfl (hb hby at_68) ?_
      show Steps p.tables e below (T75.setTop (mkF m 69 #[.val (.int fv), .val (.int ev), .val (.int iv), .val (.int sv), .val (.int (f1 fv ev iv (sv &&& (7 : Int32)))), .val (.ref b71), .val (.int (f5 (f1 fv ev iv (sv &&& (7 : Int32))) fv ev)), .val (.long (((f1 fv ev iv (sv &&& (7 : Int32))).toInt64) - (fv.toInt64))), .second, .val (.long ((ev.toInt64) - (fv.toInt64))), .second, .unset] [(.int (0 : Int32))])) _
      refine XS.istore X75.here hx rfl (hb hby at_69) rfl (l' := #[.val (.int fv), .val (.int ev), .val (.int iv), .val (.int sv), .val (.int (f1 fv ev iv (sv &&& (7 : Int32)))), .val (.ref b71), .val (.int (f5 (f1 fv ev iv (sv &&& (7 : Int32))) fv ev)), .val (.long (((f1 fv ev iv (sv &&& (7 : Int32))).toInt64) - (fv.toInt64))), .second, .val (.long ((ev.toInt64) - (fv.toInt64))), .second, .val (.int (0 : Int32))]) rfl ?_
      show Steps p.tables e below (T75.setTop (mkF m 71 #[.val (.int fv), .val (.int ev), .val (.int iv), .val (.int sv), .val (.int (f1 fv ev iv (sv &&& (7 : Int32)))), .val (.ref b71), .val (.int (f5 (f1 fv ev iv (sv &&& (7 : Int32))) fv ev)), .val (.long (((f1 fv ev iv (sv &&& (7 : Int32))).toInt64) - (fv.toInt64))), .second, .val (.long ((ev.toInt64) - (fv.toInt64))), .second, .val (.int (0 : Int32))] [])) _
      refine XS.iload X75.here hx rfl (hb hby at_71) rfl ?_
      show Steps p.tables e below (T75.setTop (mkF m 73 #[.val (.int fv), .val (.int ev), .val (.int iv), .val (.int sv), .val (.int (f1 fv ev iv (sv &&& (7 : Int32)))), .val (.ref b71), .val (.int (f5 (f1 fv ev iv (sv &&& (7 : Int32))) fv ev)), .val (.long (((f1 fv ev iv (sv &&& (7 : Int32))).toInt64) - (fv.toInt64))), .second, .val (.long ((ev.toInt64) - (fv.toInt64))), .second, .val (.int (0 : Int32))] [(.int (f5 (f1 fv ev iv (sv &&& (7 : Int32))) fv ev))])) _
      refine XS.iload X75.here hx rfl (hb hby at_73) rfl ?_
      show Steps p.tables e below (T75.setTop (mkF m 75 #[.val (.int fv), .val (.int ev), .val (.int iv), .val (.int sv), .val (.int (f1 fv ev iv (sv &&& (7 : Int32)))), .val (.ref b71), .val (.int (f5 (f1 fv ev iv (sv &&& (7 : Int32))) fv ev)), .val (.long (((f1 fv ev iv (sv &&& (7 : Int32))).toInt64) - (fv.toInt64))), .second, .val (.long ((ev.toInt64) - (fv.toInt64))), .second, .val (.int (0 : Int32))] [(.int (0 : Int32)), (.int (f5 (f1 fv ev iv (sv &&& (7 : Int32))) fv ev))])) _
      by_cases c78 : (f5 (f1 fv ev iv (sv &&& (7 : Int32))) fv ev) = (0 : Int32)
      · refine XS.icmpNo X75.here hx rfl (hb hby at_75) rfl (teq c78).2 ?_
        show Steps p.tables e below (T75.setTop (mkF m 78 #[.val (.int fv), .val (.int ev), .val (.int iv), .val (.int sv), .val (.int (f1 fv ev iv (sv &&& (7 : Int32)))), .val (.ref b71), .val (.int (f5 (f1 fv ev iv (sv &&& (7 : Int32))) fv ev)), .val (.long (((f1 fv ev iv (sv &&& (7 : Int32))).toInt64) - (fv.toInt64))), .second, .val (.long ((ev.toInt64) - (fv.toInt64))), .second, .val (.int (0 : Int32))] [])) _
        refine XS.iconst X75.here hx rfl (hb hby at_78) ?_
        show Steps p.tables e below (T75.setTop (mkF m 79 #[.val (.int fv), .val (.int ev), .val (.int iv), .val (.int sv), .val (.int (f1 fv ev iv (sv &&& (7 : Int32)))), .val (.ref b71), .val (.int (f5 (f1 fv ev iv (sv &&& (7 : Int32))) fv ev)), .val (.long (((f1 fv ev iv (sv &&& (7 : Int32))).toInt64) - (fv.toInt64))), .second, .val (.long ((ev.toInt64) - (fv.toInt64))), .second, .val (.int (0 : Int32))] [(.int (1 : Int32))])) _
        refine XS.goto X75.here hx rfl (pc0 := 79) (pc' := 83) rfl (hb hby at_79) (by decide) (by decide) ?_
        show Steps p.tables e below (T75.setTop (mkF m 83 #[.val (.int fv), .val (.int ev), .val (.int iv), .val (.int sv), .val (.int (f1 fv ev iv (sv &&& (7 : Int32)))), .val (.ref b71), .val (.int (f5 (f1 fv ev iv (sv &&& (7 : Int32))) fv ev)), .val (.long (((f1 fv ev iv (sv &&& (7 : Int32))).toInt64) - (fv.toInt64))), .second, .val (.long ((ev.toInt64) - (fv.toInt64))), .second, .val (.int (0 : Int32))] [(.int (1 : Int32))])) _
        exact retN X75 hx (t := .boolean) Bd.returns (by simp) (hb hby at_83) hr
      · refine XS.icmpYes X75.here hx rfl (pc0 := 75) (pc' := 82) rfl (hb hby at_75) rfl (feq c78).2 (by decide) (by decide) ?_
        show Steps p.tables e below (T75.setTop (mkF m 82 #[.val (.int fv), .val (.int ev), .val (.int iv), .val (.int sv), .val (.int (f1 fv ev iv (sv &&& (7 : Int32)))), .val (.ref b71), .val (.int (f5 (f1 fv ev iv (sv &&& (7 : Int32))) fv ev)), .val (.long (((f1 fv ev iv (sv &&& (7 : Int32))).toInt64) - (fv.toInt64))), .second, .val (.long ((ev.toInt64) - (fv.toInt64))), .second, .val (.int (0 : Int32))] [])) _
        refine XS.iconst X75.here hx rfl (hb hby at_82) ?_
        show Steps p.tables e below (T75.setTop (mkF m 83 #[.val (.int fv), .val (.int ev), .val (.int iv), .val (.int sv), .val (.int (f1 fv ev iv (sv &&& (7 : Int32)))), .val (.ref b71), .val (.int (f5 (f1 fv ev iv (sv &&& (7 : Int32))) fv ev)), .val (.long (((f1 fv ev iv (sv &&& (7 : Int32))).toInt64) - (fv.toInt64))), .second, .val (.long ((ev.toInt64) - (fv.toInt64))), .second, .val (.int (0 : Int32))] [(.int (0 : Int32))])) _
        exfalso
        simp_all
    · refine XS.ifNo X75.here hx rfl (hb hby at_53) rfl ((if0 _ _).trans (flt (fun q => c77 ((lw_lt (((f1 fv ev iv (sv &&& (7 : Int32))).toInt64) - (fv.toInt64)) (0 : Int64)).mp q))).1) ?_
      show Steps p.tables e below (T75.setTop (mkF m 56 #[.val (.int fv), .val (.int ev), .val (.int iv), .val (.int sv), .val (.int (f1 fv ev iv (sv &&& (7 : Int32)))), .val (.ref b71), .val (.int (f5 (f1 fv ev iv (sv &&& (7 : Int32))) fv ev)), .val (.long (((f1 fv ev iv (sv &&& (7 : Int32))).toInt64) - (fv.toInt64))), .second, .val (.long ((ev.toInt64) - (fv.toInt64))), .second, .unset] [])) _
      refine XS.lload X75.here hx rfl (hb hby at_56) rfl ?_
      show Steps p.tables e below (T75.setTop (mkF m 58 #[.val (.int fv), .val (.int ev), .val (.int iv), .val (.int sv), .val (.int (f1 fv ev iv (sv &&& (7 : Int32)))), .val (.ref b71), .val (.int (f5 (f1 fv ev iv (sv &&& (7 : Int32))) fv ev)), .val (.long (((f1 fv ev iv (sv &&& (7 : Int32))).toInt64) - (fv.toInt64))), .second, .val (.long ((ev.toInt64) - (fv.toInt64))), .second, .unset] [(.long (((f1 fv ev iv (sv &&& (7 : Int32))).toInt64) - (fv.toInt64)))])) _
      refine XS.lload X75.here hx rfl (hb hby at_58) rfl ?_
      show Steps p.tables e below (T75.setTop (mkF m 60 #[.val (.int fv), .val (.int ev), .val (.int iv), .val (.int sv), .val (.int (f1 fv ev iv (sv &&& (7 : Int32)))), .val (.ref b71), .val (.int (f5 (f1 fv ev iv (sv &&& (7 : Int32))) fv ev)), .val (.long (((f1 fv ev iv (sv &&& (7 : Int32))).toInt64) - (fv.toInt64))), .second, .val (.long ((ev.toInt64) - (fv.toInt64))), .second, .unset] [(.long ((ev.toInt64) - (fv.toInt64))), (.long (((f1 fv ev iv (sv &&& (7 : Int32))).toInt64) - (fv.toInt64)))])) _
      refine XS.lcmp X75.here hx rfl (hb hby at_60) rfl ?_
      show Steps p.tables e below (T75.setTop (mkF m 61 #[.val (.int fv), .val (.int ev), .val (.int iv), .val (.int sv), .val (.int (f1 fv ev iv (sv &&& (7 : Int32)))), .val (.ref b71), .val (.int (f5 (f1 fv ev iv (sv &&& (7 : Int32))) fv ev)), .val (.long (((f1 fv ev iv (sv &&& (7 : Int32))).toInt64) - (fv.toInt64))), .second, .val (.long ((ev.toInt64) - (fv.toInt64))), .second, .unset] [(.int (lcmpW (((f1 fv ev iv (sv &&& (7 : Int32))).toInt64) - (fv.toInt64)) ((ev.toInt64) - (fv.toInt64))))])) _
      by_cases c79 : (((f1 fv ev iv (sv &&& (7 : Int32))).toInt64) - (fv.toInt64)) < ((ev.toInt64) - (fv.toInt64))
      · refine XS.ifNo X75.here hx rfl (hb hby at_61) rfl ((if0 _ _).trans (tlt ((lw_lt (((f1 fv ev iv (sv &&& (7 : Int32))).toInt64) - (fv.toInt64)) ((ev.toInt64) - (fv.toInt64))).mpr c79)).2.1) ?_
        show Steps p.tables e below (T75.setTop (mkF m 64 #[.val (.int fv), .val (.int ev), .val (.int iv), .val (.int sv), .val (.int (f1 fv ev iv (sv &&& (7 : Int32)))), .val (.ref b71), .val (.int (f5 (f1 fv ev iv (sv &&& (7 : Int32))) fv ev)), .val (.long (((f1 fv ev iv (sv &&& (7 : Int32))).toInt64) - (fv.toInt64))), .second, .val (.long ((ev.toInt64) - (fv.toInt64))), .second, .unset] [])) _
        refine XS.iconst X75.here hx rfl (hb hby at_64) ?_
        show Steps p.tables e below (T75.setTop (mkF m 65 #[.val (.int fv), .val (.int ev), .val (.int iv), .val (.int sv), .val (.int (f1 fv ev iv (sv &&& (7 : Int32)))), .val (.ref b71), .val (.int (f5 (f1 fv ev iv (sv &&& (7 : Int32))) fv ev)), .val (.long (((f1 fv ev iv (sv &&& (7 : Int32))).toInt64) - (fv.toInt64))), .second, .val (.long ((ev.toInt64) - (fv.toInt64))), .second, .unset] [(.int (1 : Int32))])) _
        refine XS.goto X75.here hx rfl (pc0 := 65) (pc' := 69) rfl (hb hby at_65) (by decide) (by decide) ?_
        show Steps p.tables e below (T75.setTop (mkF m 69 #[.val (.int fv), .val (.int ev), .val (.int iv), .val (.int sv), .val (.int (f1 fv ev iv (sv &&& (7 : Int32)))), .val (.ref b71), .val (.int (f5 (f1 fv ev iv (sv &&& (7 : Int32))) fv ev)), .val (.long (((f1 fv ev iv (sv &&& (7 : Int32))).toInt64) - (fv.toInt64))), .second, .val (.long ((ev.toInt64) - (fv.toInt64))), .second, .unset] [(.int (1 : Int32))])) _
        refine XS.istore X75.here hx rfl (hb hby at_69) rfl (l' := #[.val (.int fv), .val (.int ev), .val (.int iv), .val (.int sv), .val (.int (f1 fv ev iv (sv &&& (7 : Int32)))), .val (.ref b71), .val (.int (f5 (f1 fv ev iv (sv &&& (7 : Int32))) fv ev)), .val (.long (((f1 fv ev iv (sv &&& (7 : Int32))).toInt64) - (fv.toInt64))), .second, .val (.long ((ev.toInt64) - (fv.toInt64))), .second, .val (.int (1 : Int32))]) rfl ?_
        show Steps p.tables e below (T75.setTop (mkF m 71 #[.val (.int fv), .val (.int ev), .val (.int iv), .val (.int sv), .val (.int (f1 fv ev iv (sv &&& (7 : Int32)))), .val (.ref b71), .val (.int (f5 (f1 fv ev iv (sv &&& (7 : Int32))) fv ev)), .val (.long (((f1 fv ev iv (sv &&& (7 : Int32))).toInt64) - (fv.toInt64))), .second, .val (.long ((ev.toInt64) - (fv.toInt64))), .second, .val (.int (1 : Int32))] [])) _
        refine XS.iload X75.here hx rfl (hb hby at_71) rfl ?_
        show Steps p.tables e below (T75.setTop (mkF m 73 #[.val (.int fv), .val (.int ev), .val (.int iv), .val (.int sv), .val (.int (f1 fv ev iv (sv &&& (7 : Int32)))), .val (.ref b71), .val (.int (f5 (f1 fv ev iv (sv &&& (7 : Int32))) fv ev)), .val (.long (((f1 fv ev iv (sv &&& (7 : Int32))).toInt64) - (fv.toInt64))), .second, .val (.long ((ev.toInt64) - (fv.toInt64))), .second, .val (.int (1 : Int32))] [(.int (f5 (f1 fv ev iv (sv &&& (7 : Int32))) fv ev))])) _
        refine XS.iload X75.here hx rfl (hb hby at_73) rfl ?_
        show Steps p.tables e below (T75.setTop (mkF m 75 #[.val (.int fv), .val (.int ev), .val (.int iv), .val (.int sv), .val (.int (f1 fv ev iv (sv &&& (7 : Int32)))), .val (.ref b71), .val (.int (f5 (f1 fv ev iv (sv &&& (7 : Int32))) fv ev)), .val (.long (((f1 fv ev iv (sv &&& (7 : Int32))).toInt64) - (fv.toInt64))), .second, .val (.long ((ev.toInt64) - (fv.toInt64))), .second, .val (.int (1 : Int32))] [(.int (1 : Int32)), (.int (f5 (f1 fv ev iv (sv &&& (7 : Int32))) fv ev))])) _
        by_cases c80 : (f5 (f1 fv ev iv (sv &&& (7 : Int32))) fv ev) = (1 : Int32)
        · refine XS.icmpNo X75.here hx rfl (hb hby at_75) rfl (teq c80).2 ?_
          show Steps p.tables e below (T75.setTop (mkF m 78 #[.val (.int fv), .val (.int ev), .val (.int iv), .val (.int sv), .val (.int (f1 fv ev iv (sv &&& (7 : Int32)))), .val (.ref b71), .val (.int (f5 (f1 fv ev iv (sv &&& (7 : Int32))) fv ev)), .val (.long (((f1 fv ev iv (sv &&& (7 : Int32))).toInt64) - (fv.toInt64))), .second, .val (.long ((ev.toInt64) - (fv.toInt64))), .second, .val (.int (1 : Int32))] [])) _
          refine XS.iconst X75.here hx rfl (hb hby at_78) ?_
          show Steps p.tables e below (T75.setTop (mkF m 79 #[.val (.int fv), .val (.int ev), .val (.int iv), .val (.int sv), .val (.int (f1 fv ev iv (sv &&& (7 : Int32)))), .val (.ref b71), .val (.int (f5 (f1 fv ev iv (sv &&& (7 : Int32))) fv ev)), .val (.long (((f1 fv ev iv (sv &&& (7 : Int32))).toInt64) - (fv.toInt64))), .second, .val (.long ((ev.toInt64) - (fv.toInt64))), .second, .val (.int (1 : Int32))] [(.int (1 : Int32))])) _
          refine XS.goto X75.here hx rfl (pc0 := 79) (pc' := 83) rfl (hb hby at_79) (by decide) (by decide) ?_
          show Steps p.tables e below (T75.setTop (mkF m 83 #[.val (.int fv), .val (.int ev), .val (.int iv), .val (.int sv), .val (.int (f1 fv ev iv (sv &&& (7 : Int32)))), .val (.ref b71), .val (.int (f5 (f1 fv ev iv (sv &&& (7 : Int32))) fv ev)), .val (.long (((f1 fv ev iv (sv &&& (7 : Int32))).toInt64) - (fv.toInt64))), .second, .val (.long ((ev.toInt64) - (fv.toInt64))), .second, .val (.int (1 : Int32))] [(.int (1 : Int32))])) _
          exact retN X75 hx (t := .boolean) Bd.returns (by simp) (hb hby at_83) hr
        · refine XS.icmpYes X75.here hx rfl (pc0 := 75) (pc' := 82) rfl (hb hby at_75) rfl (feq c80).2 (by decide) (by decide) ?_
          show Steps p.tables e below (T75.setTop (mkF m 82 #[.val (.int fv), .val (.int ev), .val (.int iv), .val (.int sv), .val (.int (f1 fv ev iv (sv &&& (7 : Int32)))), .val (.ref b71), .val (.int (f5 (f1 fv ev iv (sv &&& (7 : Int32))) fv ev)), .val (.long (((f1 fv ev iv (sv &&& (7 : Int32))).toInt64) - (fv.toInt64))), .second, .val (.long ((ev.toInt64) - (fv.toInt64))), .second, .val (.int (1 : Int32))] [])) _
          refine XS.iconst X75.here hx rfl (hb hby at_82) ?_
          show Steps p.tables e below (T75.setTop (mkF m 83 #[.val (.int fv), .val (.int ev), .val (.int iv), .val (.int sv), .val (.int (f1 fv ev iv (sv &&& (7 : Int32)))), .val (.ref b71), .val (.int (f5 (f1 fv ev iv (sv &&& (7 : Int32))) fv ev)), .val (.long (((f1 fv ev iv (sv &&& (7 : Int32))).toInt64) - (fv.toInt64))), .second, .val (.long ((ev.toInt64) - (fv.toInt64))), .second, .val (.int (1 : Int32))] [(.int (0 : Int32))])) _
          exfalso
          simp_all
      · refine XS.ifYes X75.here hx rfl (pc0 := 61) (pc' := 68) rfl (hb hby at_61) rfl ((if0 _ _).trans (flt (fun q => c79 ((lw_lt (((f1 fv ev iv (sv &&& (7 : Int32))).toInt64) - (fv.toInt64)) ((ev.toInt64) - (fv.toInt64))).mp q))).2.1) (by decide) (by decide) ?_
        show Steps p.tables e below (T75.setTop (mkF m 68 #[.val (.int fv), .val (.int ev), .val (.int iv), .val (.int sv), .val (.int (f1 fv ev iv (sv &&& (7 : Int32)))), .val (.ref b71), .val (.int (f5 (f1 fv ev iv (sv &&& (7 : Int32))) fv ev)), .val (.long (((f1 fv ev iv (sv &&& (7 : Int32))).toInt64) - (fv.toInt64))), .second, .val (.long ((ev.toInt64) - (fv.toInt64))), .second, .unset] [])) _
        refine XS.iconst X75.here hx rfl (hb hby at_68) ?_
        show Steps p.tables e below (T75.setTop (mkF m 69 #[.val (.int fv), .val (.int ev), .val (.int iv), .val (.int sv), .val (.int (f1 fv ev iv (sv &&& (7 : Int32)))), .val (.ref b71), .val (.int (f5 (f1 fv ev iv (sv &&& (7 : Int32))) fv ev)), .val (.long (((f1 fv ev iv (sv &&& (7 : Int32))).toInt64) - (fv.toInt64))), .second, .val (.long ((ev.toInt64) - (fv.toInt64))), .second, .unset] [(.int (0 : Int32))])) _
        refine XS.istore X75.here hx rfl (hb hby at_69) rfl (l' := #[.val (.int fv), .val (.int ev), .val (.int iv), .val (.int sv), .val (.int (f1 fv ev iv (sv &&& (7 : Int32)))), .val (.ref b71), .val (.int (f5 (f1 fv ev iv (sv &&& (7 : Int32))) fv ev)), .val (.long (((f1 fv ev iv (sv &&& (7 : Int32))).toInt64) - (fv.toInt64))), .second, .val (.long ((ev.toInt64) - (fv.toInt64))), .second, .val (.int (0 : Int32))]) rfl ?_
        show Steps p.tables e below (T75.setTop (mkF m 71 #[.val (.int fv), .val (.int ev), .val (.int iv), .val (.int sv), .val (.int (f1 fv ev iv (sv &&& (7 : Int32)))), .val (.ref b71), .val (.int (f5 (f1 fv ev iv (sv &&& (7 : Int32))) fv ev)), .val (.long (((f1 fv ev iv (sv &&& (7 : Int32))).toInt64) - (fv.toInt64))), .second, .val (.long ((ev.toInt64) - (fv.toInt64))), .second, .val (.int (0 : Int32))] [])) _
        refine XS.iload X75.here hx rfl (hb hby at_71) rfl ?_
        show Steps p.tables e below (T75.setTop (mkF m 73 #[.val (.int fv), .val (.int ev), .val (.int iv), .val (.int sv), .val (.int (f1 fv ev iv (sv &&& (7 : Int32)))), .val (.ref b71), .val (.int (f5 (f1 fv ev iv (sv &&& (7 : Int32))) fv ev)), .val (.long (((f1 fv ev iv (sv &&& (7 : Int32))).toInt64) - (fv.toInt64))), .second, .val (.long ((ev.toInt64) - (fv.toInt64))), .second, .val (.int (0 : Int32))] [(.int (f5 (f1 fv ev iv (sv &&& (7 : Int32))) fv ev))])) _
        refine XS.iload X75.here hx rfl (hb hby at_73) rfl ?_
        show Steps p.tables e below (T75.setTop (mkF m 75 #[.val (.int fv), .val (.int ev), .val (.int iv), .val (.int sv), .val (.int (f1 fv ev iv (sv &&& (7 : Int32)))), .val (.ref b71), .val (.int (f5 (f1 fv ev iv (sv &&& (7 : Int32))) fv ev)), .val (.long (((f1 fv ev iv (sv &&& (7 : Int32))).toInt64) - (fv.toInt64))), .second, .val (.long ((ev.toInt64) - (fv.toInt64))), .second, .val (.int (0 : Int32))] [(.int (0 : Int32)), (.int (f5 (f1 fv ev iv (sv &&& (7 : Int32))) fv ev))])) _
        by_cases c81 : (f5 (f1 fv ev iv (sv &&& (7 : Int32))) fv ev) = (0 : Int32)
        · refine XS.icmpNo X75.here hx rfl (hb hby at_75) rfl (teq c81).2 ?_
          show Steps p.tables e below (T75.setTop (mkF m 78 #[.val (.int fv), .val (.int ev), .val (.int iv), .val (.int sv), .val (.int (f1 fv ev iv (sv &&& (7 : Int32)))), .val (.ref b71), .val (.int (f5 (f1 fv ev iv (sv &&& (7 : Int32))) fv ev)), .val (.long (((f1 fv ev iv (sv &&& (7 : Int32))).toInt64) - (fv.toInt64))), .second, .val (.long ((ev.toInt64) - (fv.toInt64))), .second, .val (.int (0 : Int32))] [])) _
          refine XS.iconst X75.here hx rfl (hb hby at_78) ?_
          show Steps p.tables e below (T75.setTop (mkF m 79 #[.val (.int fv), .val (.int ev), .val (.int iv), .val (.int sv), .val (.int (f1 fv ev iv (sv &&& (7 : Int32)))), .val (.ref b71), .val (.int (f5 (f1 fv ev iv (sv &&& (7 : Int32))) fv ev)), .val (.long (((f1 fv ev iv (sv &&& (7 : Int32))).toInt64) - (fv.toInt64))), .second, .val (.long ((ev.toInt64) - (fv.toInt64))), .second, .val (.int (0 : Int32))] [(.int (1 : Int32))])) _
          refine XS.goto X75.here hx rfl (pc0 := 79) (pc' := 83) rfl (hb hby at_79) (by decide) (by decide) ?_
          show Steps p.tables e below (T75.setTop (mkF m 83 #[.val (.int fv), .val (.int ev), .val (.int iv), .val (.int sv), .val (.int (f1 fv ev iv (sv &&& (7 : Int32)))), .val (.ref b71), .val (.int (f5 (f1 fv ev iv (sv &&& (7 : Int32))) fv ev)), .val (.long (((f1 fv ev iv (sv &&& (7 : Int32))).toInt64) - (fv.toInt64))), .second, .val (.long ((ev.toInt64) - (fv.toInt64))), .second, .val (.int (0 : Int32))] [(.int (1 : Int32))])) _
          exact retN X75 hx (t := .boolean) Bd.returns (by simp) (hb hby at_83) hr
        · refine XS.icmpYes X75.here hx rfl (pc0 := 75) (pc' := 82) rfl (hb hby at_75) rfl (feq c81).2 (by decide) (by decide) ?_
          show Steps p.tables e below (T75.setTop (mkF m 82 #[.val (.int fv), .val (.int ev), .val (.int iv), .val (.int sv), .val (.int (f1 fv ev iv (sv &&& (7 : Int32)))), .val (.ref b71), .val (.int (f5 (f1 fv ev iv (sv &&& (7 : Int32))) fv ev)), .val (.long (((f1 fv ev iv (sv &&& (7 : Int32))).toInt64) - (fv.toInt64))), .second, .val (.long ((ev.toInt64) - (fv.toInt64))), .second, .val (.int (0 : Int32))] [])) _
          refine XS.iconst X75.here hx rfl (hb hby at_82) ?_
          show Steps p.tables e below (T75.setTop (mkF m 83 #[.val (.int fv), .val (.int ev), .val (.int iv), .val (.int sv), .val (.int (f1 fv ev iv (sv &&& (7 : Int32)))), .val (.ref b71), .val (.int (f5 (f1 fv ev iv (sv &&& (7 : Int32))) fv ev)), .val (.long (((f1 fv ev iv (sv &&& (7 : Int32))).toInt64) - (fv.toInt64))), .second, .val (.long ((ev.toInt64) - (fv.toInt64))), .second, .val (.int (0 : Int32))] [(.int (0 : Int32))])) _
          exfalso
          simp_all
  · show Q0 fv ev iv sv h0 n0 _ T75.heap _
    exact ⟨rfl, N75⟩
set_option maxRecDepth 65536 in
set_option maxHeartbeats 40000000 in
theorem comes_1 {Post : Tables → Env → Array Value → State → Outcome → State → Prop} (hpost : ∀ tb e args s v u, (limb_1_1.after args s (.returned v) u = true ∧ limb_1_2.after args s (.returned v) u = true ∧ True) → FrameEnd s (.returned v) u (Jvm.fieldLocs frame_1_writes args s ++ Jvm.arrayLocs frame_1_arrays args s ++ Jvm.staticLocs frame_1_statics s) 16 128 → Post tb e args s (.returned v) u) :
    ArmFor flags0 classFile x code maxLocals ret World_1 tables_1 room_1 Calls_1 rest_1 Pre_1 Post := by
  intro l hfl _ _ p e ha hc hk s m args below hf hA hF happ hP
  obtain ⟨hcalls, hrest, hpre⟩ := hP
  obtain ⟨-, -, -, hnamed, -, -, -, hat⟩ := (Spec.applies_iff hf).mp happ
  obtain ⟨hg, hn⟩ := and_e (Cond.before_iff.mp (show (Jvm.Cond.and given_1 narrow_1).before args s = true from hpre))
  obtain ⟨ga0, gb0⟩ := and_e hg
  obtain ⟨ga1, gb1⟩ := and_e gb0
  obtain ⟨ga2, gb2⟩ := and_e gb1
  obtain ⟨ga3, gb3⟩ := and_e gb2
  obtain ⟨w0, w1, w2, w3, rfl⟩ : ∃ w0 w1 w2 w3 : Value, args = #[w0, w1, w2, w3] := by
    have hs : args.size = 4 := by simpa [Cond.value, given_1] using ga0
    obtain ⟨L⟩ := args
    match L, hs with
    | [w0, w1, w2, w3], _ => exact ⟨w0, w1, w2, w3, rfl⟩
  have hw := fun d (hd : d ∈ tables_1) => atoms_spec (ws := Jvm.Cond.code x code maxLocals ret :: tables_1) hat d (List.mem_cons_of_mem _ hd)
  have hfit : Fit s := fun {y c} hc i hi => by
    obtain ⟨ha, rfl⟩ := Array.getElem?_eq_some_iff.mp hc
    have q := List.all_eq_true.mp ((Array.all_eq_true_iff_forall_mem.mp hF) _ (Array.getElem_mem ha)) i (List.mem_range.mpr hi)
    simpa [Array.getElem?_eq_getElem hi] using q
  obtain ⟨i0, ei0⟩ := is_v ga1
  obtain rfl : w0 = (.int i0) := Option.some.inj ei0
  obtain ⟨i1, ei1⟩ := is_v ga2
  obtain rfl : w1 = (.int i1) := Option.some.inj ei1
  obtain ⟨i2, ei2⟩ := is_v ga3
  obtain rfl : w2 = (.int i2) := Option.some.inj ei2
  obtain ⟨i3, ei3⟩ := is_v gb3
  obtain rfl : w3 = (.int i3) := Option.some.inj ei3
  obtain ⟨n, o, h1, h2, h3, _, L, rfl, ⟨rfl, N⟩, hq⟩ := rm0 l s _ hw tables_1 i0 i1 i2 i3  s.heap s.heap.size (Nat.le_refl _)  p e ha hc hk s m _ below hf ((Spec.applies_iff_loose hf).mp happ).1 ⟨rfl, State.Warmed39.refl s, rfl⟩ trivial
  refine ⟨n, _, h1, h2, h3, hpost _ _ _ _ _ _ ⟨Cond.after_iff.mpr rfl, Cond.after_iff.mpr (eq_i res_at (Term.int_eval (1)) rfl), trivial⟩ ⟨hq.1, hq.2.1, (hq.2.2.sift fun y hy => Or.inr (N y hy)).mono (by decide) (by decide)⟩⟩
theorem main_1_1 : Claimed_1_1 := comes_1 fun _ _ _ _ _ _ h hF => ⟨h.1, hF⟩
theorem main_1_2 : Claimed_1_2 := comes_1 fun _ _ _ _ _ _ h hF => ⟨h.2.1, hF⟩
end Jvm.Pilot.@@N@@
namespace Jvm.Pilot.@@N@@
open Jvm Jvm.ClassFile Sem Op Lib Jvm.Free Jvm.Stand Jvm.Pilot.@@N@@.Jvm.D
/-! MADE BY PROGRAM (witnessworld.py) out of the Statement's table words and the real class files: 10 classes; the members and pool entries that the words name. The judged class is class 1, her method 1. -/
namespace start1
open Jvm.ClassFile
def u (s : String) : CpInfo := .utf8 (stringToUtf16 s)
/-- a pool by its gaps: so many unusable entries, then the entry; so many at the end -/
def gap : Nat → List CpInfo → List CpInfo
  | 0, r => r
  | n + 1, r => .unusable :: gap n r
def poolList (es : List (Nat × CpInfo)) (last : Nat) : List CpInfo := es.foldr (fun e r => gap e.1 (e.2 :: r)) (gap last [])
def pool (es : List (Nat × CpInfo)) (last : Nat) : Array CpInfo := ⟨poolList es last⟩
def fileOf (pool : Array CpInfo) (this : Nat) (attrs : Array Attribute := #[]) (ms : Array MethodInfo := #[]) (fl : Nat := 33) (sup : Nat := 0) (ifs : Array Nat := #[]) (fds : Array FieldInfo := #[]) : ClassFile where
  minorVersion := 0
  majorVersion := 65
  constantPool := pool
  accessFlags := fl
  thisClass := this
  superClass := sup
  interfaces := ifs
  fields := fds
  methods := ms
  attributes := attrs
def plain (name : String) (sup : Option ClassId) : Class where
  name := name
  kind := .ordinary
  loader := none
  accessFlags := 33
  super := sup
  interfaces := #[]
  cf := none
  fields := #[]
  methods := #[]
  instanceTypes := #[]
  staticTypes := #[]
  resolved := #[]
  callSites := []
  init := .initialized
  statics := none
  mirror := none

def pool0 : Array CpInfo := pool [(5, u "<init>"), (0, u "()V"), (1, .class_ 10), (1, u "java/lang/Object")] 113

def k0c0 : Code := { maxStack := 0, maxLocals := 1, code := object_method_1_code, exceptionTable := #[], attributes := #[] }
def k0m0 : Method := { name := "<init>", desc := "()V", sig := { parameters := [], returnType := none }, accessFlags := 1, code := some k0c0 }
/-- java/lang/Object -/
def k0 : Class := { plain "java/lang/Object" none with
  accessFlags := 33
  interfaces := #[]
  cf := some (fileOf pool0 8 #[] #[{ accessFlags := 1, nameIndex := 5, descriptorIndex := 6, attributes := #[] }] 33 0 #[] #[])
  fields := #[]
  methods := #[k0m0]
  instanceTypes := #[]
  staticTypes := #[]
  resolved := Array.replicate 124 none
  statics := none }

def pool1 : Array CpInfo := pool [(2, .class_ 4), (1, u "java/lang/Object"), (0, u "<init>"), (0, u "()V"), (0, .methodref 8 9), (0, .class_ 10), (0, .nameAndType 11 12), (0, u "com/example/tideway/tideway/ReplanCoversPinLaw"), (0, u "probe"), (0, u "(IIII)I"), (0, .class_ 14), (0, u "com/example/tideway/tideway/Replan$Planned"), (0, .methodref 13 16), (0, .nameAndType 5 17), (0, u "(Lcom/example/tideway/tideway/Request$Transfer;Ljava/util/List;II)V"), (0, .methodref 13 19), (0, .nameAndType 20 21), (0, u "covers"), (0, u "(I)Z"), (2, u "law"), (0, u "(IIII)Z")] 12

def k1m0 : Method := { name := "<init>", desc := "()V", sig := { parameters := [], returnType := none }, accessFlags := 2, code := none }
def k1c1 : Code := { maxStack := 6, maxLocals := 12, code := code, exceptionTable := #[], attributes := #[] }
def k1m1 : Method := { name := "law", desc := "(IIII)Z", sig := { parameters := [.int, .int, .int, .int], returnType := some .boolean }, accessFlags := 9, code := some k1c1 }
def k1c2 : Code := { maxStack := 2, maxLocals := 4, code := method_3_code, exceptionTable := #[], attributes := #[] }
def k1m2 : Method := { name := "probe", desc := "(IIII)I", sig := { parameters := [.int, .int, .int, .int], returnType := some .int }, accessFlags := 10, code := some k1c2 }
/-- com/example/tideway/tideway/ReplanCoversPinLaw -/
def k1 : Class := { plain "com/example/tideway/tideway/ReplanCoversPinLaw" (some 0) with
  accessFlags := 49
  interfaces := #[]
  cf := some (fileOf pool1 8 #[] #[{ accessFlags := 2, nameIndex := 5, descriptorIndex := 6, attributes := #[] }, { accessFlags := 9, nameIndex := 24, descriptorIndex := 25, attributes := #[] }, { accessFlags := 10, nameIndex := 11, descriptorIndex := 12, attributes := #[] }] 49 2 #[] #[])
  fields := #[]
  methods := #[k1m0, k1m1, k1m2]
  instanceTypes := #[]
  staticTypes := #[]
  resolved := Array.replicate 38 none
  statics := none }

def pool2 : Array CpInfo := pool [(1, .methodref 2 3), (0, .class_ 4), (0, .nameAndType 5 6), (0, u "java/lang/Object"), (0, u "<init>"), (0, u "()V"), (0, .class_ 8), (0, u "java/lang/Record")] 13

def k2c0 : Code := { maxStack := 1, maxLocals := 1, code := jdk_30_method_1_code, exceptionTable := #[], attributes := #[] }
def k2m0 : Method := { name := "<init>", desc := "()V", sig := { parameters := [], returnType := none }, accessFlags := 4, code := some k2c0 }
/-- java/lang/Record -/
def k2 : Class := { plain "java/lang/Record" (some 0) with
  accessFlags := 1057
  interfaces := #[]
  cf := some (fileOf pool2 7 #[] #[{ accessFlags := 4, nameIndex := 5, descriptorIndex := 6, attributes := #[] }] 1057 2 #[] #[])
  fields := #[]
  methods := #[k2m0]
  instanceTypes := #[]
  staticTypes := #[]
  resolved := Array.replicate 22 none
  statics := none }

def pool3 : Array CpInfo := pool [(1, .methodref 2 3), (0, .class_ 4), (0, .nameAndType 5 6), (0, u "java/lang/Record"), (0, u "<init>"), (0, u "()V"), (0, .fieldref 8 9), (0, .class_ 10), (0, .nameAndType 11 12), (0, u "com/example/tideway/tideway/Replan$Planned"), (0, u "request"), (0, u "Lcom/example/tideway/tideway/Request$Transfer;"), (0, .fieldref 8 14), (0, .nameAndType 15 16), (0, u "routes"), (0, u "Ljava/util/List;"), (0, .fieldref 8 18), (0, .nameAndType 19 20), (0, u "first"), (0, u "I"), (0, .fieldref 8 22), (0, .nameAndType 23 20), (0, u "end"), (14, u "(Lcom/example/tideway/tideway/Request$Transfer;Ljava/util/List;II)V"), (4, u "covers"), (0, u "(I)Z"), (10, .class_ 56), (0, u "com/example/tideway/tideway/Replan")] 27

def k3c0 : Code := { maxStack := 2, maxLocals := 5, code := prog_44_method_1_code, exceptionTable := #[], attributes := #[] }
def k3m0 : Method := { name := "<init>", desc := "(Lcom/example/tideway/tideway/Request$Transfer;Ljava/util/List;II)V", sig := { parameters := [(.object "com/example/tideway/tideway/Request$Transfer"), (.object "java/util/List"), .int, .int], returnType := none }, accessFlags := 0, code := some k3c0 }
def k3c1 : Code := { maxStack := 2, maxLocals := 2, code := prog_44_method_2_code, exceptionTable := #[], attributes := #[] }
def k3m1 : Method := { name := "covers", desc := "(I)Z", sig := { parameters := [.int], returnType := some .boolean }, accessFlags := 0, code := some k3c1 }
/-- com/example/tideway/tideway/Replan$Planned -/
def k3 : Class := { plain "com/example/tideway/tideway/Replan$Planned" (some 2) with
  accessFlags := 48
  interfaces := #[]
  cf := some (fileOf pool3 8 #[.nestHost 55] #[{ accessFlags := 0, nameIndex := 5, descriptorIndex := 38, attributes := #[] }, { accessFlags := 0, nameIndex := 43, descriptorIndex := 44, attributes := #[] }] 48 2 #[] #[{ accessFlags := 18, nameIndex := 11, descriptorIndex := 12, attributes := #[] }, { accessFlags := 18, nameIndex := 15, descriptorIndex := 16, attributes := #[] }, { accessFlags := 18, nameIndex := 19, descriptorIndex := 20, attributes := #[] }, { accessFlags := 18, nameIndex := 23, descriptorIndex := 20, attributes := #[] }])
  fields := #[{ name := "request", type := (.object "com/example/tideway/tideway/Request$Transfer"), accessFlags := 18, slot := 0, constantValue := 0 }, { name := "routes", type := (.object "java/util/List"), accessFlags := 18, slot := 1, constantValue := 0 }, { name := "first", type := .int, accessFlags := 18, slot := 2, constantValue := 0 }, { name := "end", type := .int, accessFlags := 18, slot := 3, constantValue := 0 }]
  methods := #[k3m0, k3m1]
  instanceTypes := #[(.object "com/example/tideway/tideway/Request$Transfer"), (.object "java/util/List"), .int, .int]
  staticTypes := #[]
  resolved := Array.replicate 84 none
  statics := none }

def pool4 : Array CpInfo := pool [(1, u "java/lang/Cloneable"), (0, .class_ 1), (0, u "java/lang/Object"), (0, .class_ 3)] 3

/-- java/lang/Cloneable -/
def k4 : Class := { plain "java/lang/Cloneable" (some 0) with
  accessFlags := 1537
  interfaces := #[]
  cf := some (fileOf pool4 2 #[] #[] 1537 4 #[] #[])
  fields := #[]
  methods := #[]
  instanceTypes := #[]
  staticTypes := #[]
  resolved := Array.replicate 8 none
  statics := none }

def pool5 : Array CpInfo := pool [(1, u "java/io/Serializable"), (0, .class_ 1), (0, u "java/lang/Object"), (0, .class_ 3)] 3

/-- java/io/Serializable -/
def k5 : Class := { plain "java/io/Serializable" (some 0) with
  accessFlags := 1537
  interfaces := #[]
  cf := some (fileOf pool5 2 #[] #[] 1537 4 #[] #[])
  fields := #[]
  methods := #[]
  instanceTypes := #[]
  staticTypes := #[]
  resolved := Array.replicate 8 none
  statics := none }

/-- the primitive byte -/
def k6 : Class := { plain "byte" none with kind := .primitive 'B', accessFlags := 0x411 }
/-- [B -/
def k7 : Class := { plain "[B" (some 0) with kind := .array 6 .byte, interfaces := #[4, 5], accessFlags := 1041 }

/-- the primitive int -/
def k8 : Class := { plain "int" none with kind := .primitive 'I', accessFlags := 0x411 }
/-- [I -/
def k9 : Class := { plain "[I" (some 0) with kind := .array 8 .int, interfaces := #[4, 5], accessFlags := 1041 }

def heap : Heap := #[]
def classes : Array Class := #[k0, k1, k2, k3, k4, k5, k6, k7, k8, k9]
def interned : List (Array UInt16 × Addr) := []
def slotsUsed : Nat := 0
def theMethod : MethodId := ⟨1, 1⟩
def args0 : Array Value := #[.int 5, .int 9, .int 7, .int 0]
def aboutOver (below : List Frame) : State where
  vm := { classes := classes, interned := interned.toArray }
  heap := heap
  slotsUsed := slotsUsed
  threads := #[{ frames := .invoking theMethod args0 :: below }]
def below0 : List Frame := [.native { method := ⟨0, 0⟩, args := #[] }]
def about1 : State := aboutOver below0
def p0 : Program := .bare "" "" ""
def e0 : Env := launch0.env 0 0 0
theorem w_frames : about1.frames = Frame.invoking theMethod args0 :: below0 := rfl
set_option maxRecDepth 65536 in
theorem w_args : argsFit about1.vm theMethod args0 = true := by decide +kernel
set_option maxRecDepth 65536 in
theorem w_heap : heapFits about1 = true := by decide +kernel
set_option maxRecDepth 65536 in
theorem w_runnable : about1.curStatus? = some .runnable := by decide +kernel
set_option maxRecDepth 65536 in
theorem w_alone : about1.alone = true := by decide +kernel
set_option maxRecDepth 65536 in
theorem w_named : about1.methodNamed? x = some theMethod := by decide +kernel
set_option maxRecDepth 65536 in
theorem w_hears : about1.hears theMethod below0 = true := by decide +kernel
set_option maxRecDepth 65536 in
theorem w_ripe : about1.ripe theMethod args0 below0 = true := by decide +kernel
theorem w_running : about1.status = .running := rfl
set_option maxRecDepth 65536 in
theorem w_room : about1.hasRoom e0.platform room_1 = true :=
  launch0.hasRoom_least _ room_1 (by decide +kernel) (by decide +kernel) (by decide +kernel) (by decide +kernel) (by decide +kernel) (by decide +kernel)
theorem allAtoms_all (ts : List Jvm.Cond) (a : Array Jvm.Value) (st : Jvm.State) : (allAtoms ts).before a st = ts.all (fun c => c.before a st) := by
  induction ts with
  | nil => rfl
  | cons c t ih =>
    show (Jvm.Cond.and c (allAtoms t)).before a st = _
    rw [Jvm.Cond.before_and, ih, List.all_cons]
def words1 : List Jvm.Cond := Jvm.Cond.code x code maxLocals ret :: tables_1
/-- a 'code' word, met by the world's own term for the bytes: nothing is compared byte by byte -/
theorem code_word {y : MethodName} {bytes : ByteArray} {mx : Nat} {rt : Option FieldType} {a : Array Value} {s : State} {m : MethodId} {meth : Method} {c : Code} (h1 : s.methodNamed? y = some m) (h2 : s.vm.method? m = some meth) (h3 : meth.code = some c) (h4 : c.code = bytes)
    (h5 : (c.maxLocals == mx && c.exceptionTable.isEmpty && decide (c.maxStack ≤ mostOperands) && decide (meth.sig.returnType = rt) && !meth.locks && decide (parseMethodDescriptor y.desc = some meth.sig)) = true) : (Jvm.Cond.code y bytes mx rt).before a s = true := by
  simp only [Bool.and_eq_true, beq_iff_eq, Bool.not_eq_true', decide_eq_true_eq] at h5
  obtain ⟨⟨⟨⟨⟨g1, g2⟩, g3⟩, g4⟩, g5⟩, g6⟩ := h5
  simp [Cond.before, Cond.holds, Cond.value, h1, h2, h3, h4, g1, g2, g3, g4, g5, g6]
def isCode : Jvm.Cond → Bool
  | .code _ _ _ _ => true
  | _ => false
theorem all_split {L : List Jvm.Cond} {P : Jvm.Cond → Bool} (h1 : L.all (fun c => isCode c || P c) = true) (h2 : ∀ c ∈ L.filter isCode, P c = true) : L.all P = true := by
  refine List.all_eq_true.mpr fun c hc => ?_
  have h := List.all_eq_true.mp h1 c hc
  rcases Bool.eq_false_or_eq_true (isCode c) with hi | hi
  · exact h2 c (List.mem_filter.mpr ⟨hc, hi⟩)
  · simpa [hi] using h
set_option maxRecDepth 65536 in
theorem w_c0 : (Jvm.Cond.code x code maxLocals ret).before args0 about1 = true := code_word (m := ⟨1, 1⟩) (meth := k1m1) (c := k1c1) (by decide +kernel) rfl rfl rfl (by decide +kernel)
set_option maxRecDepth 65536 in
theorem w_c1 : (Jvm.Cond.code ({ cls := "com/example/tideway/tideway/ReplanCoversPinLaw", name := "probe", desc := "(IIII)I" } : Jvm.MethodName) method_3_code (4 : Nat) (Option.some Jvm.ClassFile.FieldType.int)).before args0 about1 = true := code_word (m := ⟨1, 2⟩) (meth := k1m2) (c := k1c2) (by decide +kernel) rfl rfl rfl (by decide +kernel)
set_option maxRecDepth 65536 in
theorem w_c2 : (Jvm.Cond.code ({ cls := "com/example/tideway/tideway/Replan$Planned", name := "<init>", desc := "(Lcom/example/tideway/tideway/Request$Transfer;Ljava/util/List;II)V" } : Jvm.MethodName) prog_44_method_1_code (5 : Nat) (Option.none : Option Jvm.ClassFile.FieldType)).before args0 about1 = true := code_word (m := ⟨3, 0⟩) (meth := k3m0) (c := k3c0) (by decide +kernel) rfl rfl rfl (by decide +kernel)
set_option maxRecDepth 65536 in
theorem w_c3 : (Jvm.Cond.code ({ cls := "java/lang/Record", name := "<init>", desc := "()V" } : Jvm.MethodName) jdk_30_method_1_code (1 : Nat) (Option.none : Option Jvm.ClassFile.FieldType)).before args0 about1 = true := code_word (m := ⟨2, 0⟩) (meth := k2m0) (c := k2c0) (by decide +kernel) rfl rfl rfl (by decide +kernel)
set_option maxRecDepth 65536 in
theorem w_c4 : (Jvm.Cond.code ({ cls := "java/lang/Object", name := "<init>", desc := "()V" } : Jvm.MethodName) object_method_1_code (1 : Nat) (Option.none : Option Jvm.ClassFile.FieldType)).before args0 about1 = true := code_word (m := ⟨0, 0⟩) (meth := k0m0) (c := k0c0) (by decide +kernel) rfl rfl rfl (by decide +kernel)
set_option maxRecDepth 65536 in
theorem w_c5 : (Jvm.Cond.code ({ cls := "com/example/tideway/tideway/Replan$Planned", name := "covers", desc := "(I)Z" } : Jvm.MethodName) prog_44_method_2_code (2 : Nat) (Option.some Jvm.ClassFile.FieldType.boolean)).before args0 about1 = true := code_word (m := ⟨3, 1⟩) (meth := k3m1) (c := k3c1) (by decide +kernel) rfl rfl rfl (by decide +kernel)
def codes1 : List Jvm.Cond := [Jvm.Cond.code x code maxLocals ret, Jvm.Cond.code ({ cls := "com/example/tideway/tideway/ReplanCoversPinLaw", name := "probe", desc := "(IIII)I" } : Jvm.MethodName) method_3_code (4 : Nat) (Option.some Jvm.ClassFile.FieldType.int), Jvm.Cond.code ({ cls := "com/example/tideway/tideway/Replan$Planned", name := "<init>", desc := "(Lcom/example/tideway/tideway/Request$Transfer;Ljava/util/List;II)V" } : Jvm.MethodName) prog_44_method_1_code (5 : Nat) (Option.none : Option Jvm.ClassFile.FieldType), Jvm.Cond.code ({ cls := "java/lang/Record", name := "<init>", desc := "()V" } : Jvm.MethodName) jdk_30_method_1_code (1 : Nat) (Option.none : Option Jvm.ClassFile.FieldType), Jvm.Cond.code ({ cls := "java/lang/Object", name := "<init>", desc := "()V" } : Jvm.MethodName) object_method_1_code (1 : Nat) (Option.none : Option Jvm.ClassFile.FieldType), Jvm.Cond.code ({ cls := "com/example/tideway/tideway/Replan$Planned", name := "covers", desc := "(I)Z" } : Jvm.MethodName) prog_44_method_2_code (2 : Nat) (Option.some Jvm.ClassFile.FieldType.boolean)]
set_option maxRecDepth 65536 in
theorem codes_eq : words1.filter isCode = codes1 := rfl
theorem w_codes : ∀ c ∈ words1.filter isCode, c.before args0 about1 = true := by
  rw [codes_eq]
  intro c hc
  simp only [codes1, List.mem_cons, List.not_mem_nil, or_false] at hc
  rcases hc with rfl | rfl | rfl | rfl | rfl | rfl
  · exact w_c0
  · exact w_c1
  · exact w_c2
  · exact w_c3
  · exact w_c4
  · exact w_c5
set_option maxRecDepth 65536 in
theorem w_t1 : (words1.take 24).all (fun c => isCode c || c.before args0 about1) = true := by decide +kernel
set_option maxRecDepth 65536 in
theorem w_t2 : (words1.drop 24).all (fun c => isCode c || c.before args0 about1) = true := by decide +kernel
theorem w_tables : (allAtoms (Jvm.Cond.code x code maxLocals ret :: tables_1)).before args0 about1 = true := by
  rw [allAtoms_all]
  show words1.all (fun c => c.before args0 about1) = true
  refine all_split ?_ w_codes
  rw [← List.take_append_drop 24 words1, List.all_append, w_t1, w_t2]
  rfl
set_option maxRecDepth 65536 in
theorem w_case : (Jvm.Cond.and given_1 narrow_1).before args0 about1 = true := by decide +kernel
theorem w_applies : (headSpec (Jvm.Cond.code x code maxLocals ret :: tables_1) room_1).applies x e0.platform about1 = true :=
  (Spec.applies_iff w_frames).mpr ⟨w_running, w_runnable, w_alone, w_named, w_hears, w_ripe, w_room, w_tables⟩
theorem atStart : AtStart classFile x code maxLocals ret World_1 tables_1 room_1 Calls_1 rest_1 Pre_1 launch0 p0 e0 about1 theMethod args0 below0 :=
  ⟨lists_1, trivial, launch0.admits_env _ _ _, launch0.least_env, fairChoices_fair.cas, fairChoices_fair.clock, w_frames, w_args, w_heap, w_applies, trivial, trivial, w_case⟩
end start1
theorem witness_1 : WitnessClaimed_1 := ⟨start1.p0, start1.e0, start1.about1, start1.theMethod, start1.args0, start1.below0, start1.atStart⟩
end Jvm.Pilot.@@N@@

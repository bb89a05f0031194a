import JvmDerived
import JvmDerived.Pilot.@@N@@Statement
import JvmDerived.Pilot.@@N@@Code
set_option linter.unusedVariables false
set_option linter.unusedSimpArgs false
@@BLOCK:NumsL.lean.txt@@
namespace Jvm.RoadKit
open Sem ClassFile Op Lib Jvm.Stand Jvm.Free Jvm.LawKit
section New
variable {p : Program} {l : Launch} {e : Env} {R : Room} {s : State} {m : MethodId} {args : Array Value} {below : List Frame} {meth : Method} {c : Code} {T : State} {locs : List Loc} {cells slots : Nat}
theorem retI (X : Stand p l e R s m args below meth c T locs cells slots) (hx : p.tables.exec = Jvm.exec) {pc : Nat} {Ls : Array Slot} {z : Int32} {rest : List Value} (hret : meth.sig.returnType = some .int) (hd : decode c.code pc = .ok (.ireturn, 1)) {fs : List Frame}
    (hl : ∀ (f : JFrame) (acts : List Action), f.method = m → f.locked = none → f.entered = [] → (doReturn e (T.setTop f) acts (some (.int z))).1 = T.setFrames fs) : Steps p.tables e below (T.setTop (mkF m pc Ls (.int z :: rest))) (T.setFrames fs) := by
  have hm' : T.vm.method? m = some meth := X.method'
  have hn : narrow .int (.int z) = .int z := rfl
  show Steps p.tables e below (T.setTop { method := m, pc := pc, locals := Ls, stack := _ :: rest, locked := none }) _
  jvm_step X.here [X.here.top, hx, hd, hm', hret, hn]
  first | (intro acts; rw [hl _ acts rfl rfl rfl]) | rw [hl _ _ rfl rfl rfl]
  exact Steps.refl _
end New
end Jvm.RoadKit
namespace Jvm.Pilot.@@N@@
open Jvm Jvm.ClassFile Sem Op Lib Jvm.Free Jvm.Stand Jvm.LawKit Jvm.RoadKit Bundle Jvm.Pilot.@@N@@.Jvm.D
theorem d1_0 : decode prog_8_method_2_code 0 = .ok (.iload_n 0, 1) := by decide +kernel
theorem d1_1 : decode prog_8_method_2_code 1 = .ok (.sipush 400, 3) := by decide +kernel
theorem d1_4 : decode prog_8_method_2_code 4 = .ok (.if_icmp .eq 10, 3) := by decide +kernel
theorem d1_7 : decode prog_8_method_2_code 7 = .ok (.iload_n 0, 1) := by decide +kernel
theorem d1_8 : decode prog_8_method_2_code 8 = .ok (.sipush 401, 3) := by decide +kernel
theorem d1_11 : decode prog_8_method_2_code 11 = .ok (.if_icmp .ne 7, 3) := by decide +kernel
theorem d1_14 : decode prog_8_method_2_code 14 = .ok (.iconst 1, 1) := by decide +kernel
theorem d1_15 : decode prog_8_method_2_code 15 = .ok (.goto 4, 3) := by decide +kernel
theorem d1_18 : decode prog_8_method_2_code 18 = .ok (.iload_n 1, 1) := by decide +kernel
theorem d1_19 : decode prog_8_method_2_code 19 = .ok (.ireturn, 1) := by decide +kernel
theorem pn_1 : plainName "com/example/arrivall/arrivall/cli/ExitStatus" = true := by first | (simp [plainName, overriddenIn]; done) | decide +kernel
theorem pd_0 : parseMethodDescriptor "(II)I" = some ⟨[.int, .int], some .int⟩ := by decide +kernel
theorem ef_1 (m : MethodId) (x0 : Int32) (x1 : Int32) : entryFrame m #[(.int x0), (.int x1)] 2 = mkF m 0 #[.val (.int x0), .val (.int x1)] [] := by first | (simp [entryFrame, mkF, argsToLocals, Value.category]; done) | rfl
def f1 (p0 : Int32) (p1 : Int32) : Int32 := if p0 = (400 : Int32) then (1 : Int32) else if p0 = (401 : Int32) then (1 : Int32) else p1
def Q1 (p0 : Int32) (p1 : Int32) (h0 : Heap) (n0 : Nat) (v : Option Value) (h : Heap) (L : List Loc) : Prop := v = some (.int (f1 p0 p1)) ∧ Fr n0 L ∧ h = h0
set_option maxRecDepth 65536 in
set_option maxHeartbeats 40000000 in
theorem rm1 (l : Launch) (Z : State) (a0 : Array Value) (hw : ∀ d ∈ tables_1, d.before a0 Z = true) (ws : List Jvm.Cond) (p0 : Int32) (p1 : Int32)  (h0 : Heap) (n0 : Nat) (Z0 : n0 ≤ h0.size)  :
    MetFree l (⟨"com/example/arrivall/arrivall/cli/ExitStatus", "ofRefusal", "(II)I"⟩ : MethodName) (head1 (Jvm.Cond.code (⟨"com/example/arrivall/arrivall/cli/ExitStatus", "ofRefusal", "(II)I"⟩ : MethodName) prog_8_method_2_code 2 (some .int) :: ws) ({ frames := 0, cells := 0, slots := 0, locals := 0 } : Room)) (fun a U => a = #[(.int p0), (.int p1)] ∧ Z.Warmed39 U.vm ∧ U.heap = h0) (fun _ _ _ _ _ => True) (fun _ U o U' => ∃ v L, o = .returned v ∧ Q1 p0 p1 h0 n0 v U'.heap L ∧ FrameEnd U o U' L ({ frames := 0, cells := 0, slots := 0, locals := 0 } : Room).cells ({ frames := 0, cells := 0, slots := 0, locals := 0 } : Room).slots) := by
  refine MetFree.of_bodySF (plainFor_of_name pn_1) hisR ?_
  intro p e s m args below meth c s₁ Bd hml0 hP hK
  obtain ⟨rfl, hZ, hh⟩ := hP
  have hx := Bd.exec
  have hby := Bd.bytes
  have hml : c.maxLocals = 2 := hml0
  have hown : s.vm.findClass "com/example/arrivall/arrivall/cli/ExitStatus" = some m.cls := findClass_of_methodNamed Bd.named
  have hnm := (name_of_methodNamed Bd.named Bd.method).1
  have X0 : Stand p l e ({ frames := 0, cells := 0, slots := 0, locals := 0 } : Room) s m #[(.int p0), (.int p1)] below meth c s₁ [] 0 0 := Stand.of_body Bd
  have e0 : s₁.heap = h0 := by rw [← hh, Bd.state]; rfl
  have N0 := Fr.nil n0
  have pre0 : ∀ t, Steps p.tables e below (s₁.setTop (mkF m 0 #[.val (.int p0), .val (.int p1)] [])) t → Steps p.tables e below (s₁.setTop (entryFrame m #[(.int p0), (.int p1)] 2)) t := fun t k => castTop (ef_1 m p0 p1) k
  obtain ⟨fs, hr, hrun, hended, hW, hsame⟩ := X0.leave (v := some (.int (f1 p0 p1))) (fun h => by rw [Bd.returns] at h; cases h)
  refine ⟨_, _, pre0 _ ?_, hrun, hended, _, _, rfl, ?_, ⟨_, rfl⟩, hW, hsame.mono (by decide) (by decide)⟩
  · show Steps p.tables e below (s₁.setTop (mkF m 0 #[.val (.int p0), .val (.int p1)] [])) _
    refine XS.iloadN X0.here hx rfl (hb hby d1_0) rfl ?_
    show Steps p.tables e below (s₁.setTop (mkF m 1 #[.val (.int p0), .val (.int p1)] [(.int p0)])) _
    refine XS.sipush X0.here hx rfl (hb hby d1_1) ?_
    show Steps p.tables e below (s₁.setTop (mkF m 4 #[.val (.int p0), .val (.int p1)] [(.int (400 : Int32)), (.int p0)])) _
    by_cases c3 : p0 = (400 : Int32)
    · refine XS.icmpYes X0.here hx rfl (pc0 := 4) (pc' := 14) rfl (hb hby d1_4) rfl (teq c3).1 (by decide) (by decide) ?_
      show Steps p.tables e below (s₁.setTop (mkF m 14 #[.val (.int p0), .val (.int p1)] [])) _
      refine XS.iconst X0.here hx rfl (hb hby d1_14) ?_
      show Steps p.tables e below (s₁.setTop (mkF m 15 #[.val (.int p0), .val (.int p1)] [(.int (1 : Int32))])) _
      refine XS.goto X0.here hx rfl (pc0 := 15) (pc' := 19) rfl (hb hby d1_15) (by decide) (by decide) ?_
      show Steps p.tables e below (s₁.setTop (mkF m 19 #[.val (.int p0), .val (.int p1)] [(.int (1 : Int32))])) _
      have hv : f1 p0 p1 = (1 : Int32) := by unfold f1; rw [if_pos c3]
      rw [hv] at hr
      exact retI X0 hx Bd.returns (hb hby d1_19) hr
    · refine XS.icmpNo X0.here hx rfl (hb hby d1_4) rfl (feq c3).1 ?_
      show Steps p.tables e below (s₁.setTop (mkF m 7 #[.val (.int p0), .val (.int p1)] [])) _
      refine XS.iloadN X0.here hx rfl (hb hby d1_7) rfl ?_
      show Steps p.tables e below (s₁.setTop (mkF m 8 #[.val (.int p0), .val (.int p1)] [(.int p0)])) _
      refine XS.sipush X0.here hx rfl (hb hby d1_8) ?_
      show Steps p.tables e below (s₁.setTop (mkF m 11 #[.val (.int p0), .val (.int p1)] [(.int (401 : Int32)), (.int p0)])) _
      by_cases c4 : p0 = (401 : Int32)
      · refine XS.icmpNo X0.here hx rfl (hb hby d1_11) rfl (teq c4).2 ?_
        show Steps p.tables e below (s₁.setTop (mkF m 14 #[.val (.int p0), .val (.int p1)] [])) _
        refine XS.iconst X0.here hx rfl (hb hby d1_14) ?_
        show Steps p.tables e below (s₁.setTop (mkF m 15 #[.val (.int p0), .val (.int p1)] [(.int (1 : Int32))])) _
        refine XS.goto X0.here hx rfl (pc0 := 15) (pc' := 19) rfl (hb hby d1_15) (by decide) (by decide) ?_
        show Steps p.tables e below (s₁.setTop (mkF m 19 #[.val (.int p0), .val (.int p1)] [(.int (1 : Int32))])) _
        have hv : f1 p0 p1 = (1 : Int32) := by unfold f1; rw [if_neg c3, if_pos c4]
        rw [hv] at hr
        exact retI X0 hx Bd.returns (hb hby d1_19) hr
      · refine XS.icmpYes X0.here hx rfl (pc0 := 11) (pc' := 18) rfl (hb hby d1_11) rfl (feq c4).2 (by decide) (by decide) ?_
        show Steps p.tables e below (s₁.setTop (mkF m 18 #[.val (.int p0), .val (.int p1)] [])) _
        refine XS.iloadN X0.here hx rfl (hb hby d1_18) rfl ?_
        show Steps p.tables e below (s₁.setTop (mkF m 19 #[.val (.int p0), .val (.int p1)] [(.int p1)])) _
        have hv : f1 p0 p1 = p1 := by unfold f1; rw [if_neg c3, if_neg c4]
        rw [hv] at hr
        exact retI X0 hx Bd.returns (hb hby d1_19) hr
  · show Q1 p0 p1 h0 n0 _ s₁.heap _
    rw [e0]
    exact ⟨rfl, N0, rfl⟩
def own_status (s pick : Int32) : Int32 := if (pick &&& (1 : Int32)) = (0 : Int32) then s else ((398 : Int32) + ((s &&& (2147483647 : Int32)) - ((s &&& (2147483647 : Int32)) / (6 : Int32)) * (6 : Int32)))
theorem own_d (a : Int32) : (a.toInt64 - (400 : Int64)).toInt = a.toInt - 400 := by
  have h1 := a.toInt_lt
  have h2 := a.le_toInt
  have e : a.toInt64.toInt = a.toInt := Int32.toInt_toInt64 a
  rw [Int64.toInt_sub, e]
  show Int.bmod (a.toInt - 400) (2 ^ 64) = _
  rw [Int.bmod_def]; omega
theorem own_pin (a o : Int32) : f1 a o = if (¬ (a.toInt64 - (400 : Int64)) < (0 : Int64)) ∧ ¬ ((1 : Int64) < (a.toInt64 - (400 : Int64))) then (1 : Int32) else o := by
  have e := own_d a
  unfold f1
  simp only [Int64.lt_iff_toInt_lt, e, ← Int32.toInt_inj]
  have z0 : (0 : Int64).toInt = 0 := rfl
  have z1 : (1 : Int64).toInt = 1 := rfl
  have z2 : (400 : Int32).toInt = 400 := rfl
  have z3 : (401 : Int32).toInt = 401 := rfl
  rw [z0, z1, z2, z3]
  by_cases h1 : a.toInt = 400
  · rw [if_pos h1, if_pos (by omega)]
  · rw [if_neg h1]
    by_cases h2 : a.toInt = 401
    · rw [if_pos h2, if_pos (by omega)]
    · rw [if_neg h2, if_neg (by omega)]
theorem pn_0 : plainName "com/example/arrivall/arrivall/cli/ExitStatusOfRefusalPinLaw" = true := by first | (simp [plainName, overriddenIn]; done) | decide +kernel
theorem ef_0 (m : MethodId) (x0 : Int32) (x1 : Int32) (x2 : Int32) : entryFrame m #[(.int x0), (.int x1), (.int x2)] maxLocals = mkF m 0 #[.val (.int x0), .val (.int x1), .val (.int x2), .unset, .unset, .unset, .unset, .unset, .unset] [] := by first | (simp [entryFrame, mkF, argsToLocals, Value.category, maxLocals]; done) | rfl
def Q0 (sv : Int32) (ov : Int32) (pk : Int32) (h0 : Heap) (n0 : Nat) (v : Option Value) (h : Heap) (L : List Loc) : Prop := v = some (.int (1 : Int32)) ∧ Fr n0 L
set_option maxRecDepth 65536 in
set_option maxHeartbeats 40000000 in
theorem rm0 (l : Launch) (Z : State) (a0 : Array Value) (hw : ∀ d ∈ tables_1, d.before a0 Z = true) (ws : List Jvm.Cond) (sv : Int32) (ov : Int32) (pk : Int32)  (h0 : Heap) (n0 : Nat) (Z0 : n0 ≤ h0.size)  :
    MetFree l x (head1 (Jvm.Cond.code x code maxLocals ret :: ws) room_1) (fun a U => a = #[(.int sv), (.int ov), (.int pk)] ∧ Z.Warmed39 U.vm ∧ U.heap = h0) (fun _ _ _ _ _ => True) (fun _ U o U' => ∃ v L, o = .returned v ∧ Q0 sv ov pk h0 n0 v U'.heap L ∧ FrameEnd U o U' L room_1.cells room_1.slots) := by
  refine MetFree.of_bodySF (plainFor_of_name pn_0) hisR ?_
  intro p e s m args below meth c s₁ Bd hml0 hP hK
  obtain ⟨rfl, hZ, hh⟩ := hP
  have hx := Bd.exec
  have hby := Bd.bytes
  have hml : c.maxLocals = 9 := hml0
  have hown : s.vm.findClass "com/example/arrivall/arrivall/cli/ExitStatusOfRefusalPinLaw" = some m.cls := findClass_of_methodNamed Bd.named
  have hnm := (name_of_methodNamed Bd.named Bd.method).1
  have X0 : Stand p l e room_1 s m #[(.int sv), (.int ov), (.int pk)] below meth c s₁ [] 0 0 := Stand.of_body Bd
  have e0 : s₁.heap = h0 := by rw [← hh, Bd.state]; rfl
  have N0 := Fr.nil n0
  have pre0 : ∀ t, Steps p.tables e below (s₁.setTop (mkF m 0 #[.val (.int sv), .val (.int ov), .val (.int pk), .unset, .unset, .unset, .unset, .unset, .unset] [])) t → Steps p.tables e below (s₁.setTop (entryFrame m #[(.int sv), (.int ov), (.int pk)] maxLocals)) t := fun t k => castTop (ef_0 m sv ov pk) k
  have pre5 : ∀ t, Steps p.tables e below (s₁.setTop (mkF m 22 #[.val (.int sv), .val (.int ov), .val (.int pk), .val (.int (own_status sv pk)), .unset, .unset, .unset, .unset, .unset] [])) t → Steps p.tables e below (s₁.setTop (entryFrame m #[(.int sv), (.int ov), (.int pk)] maxLocals)) t := fun t k => by
    refine pre0 _ ?_
    show Steps p.tables e below (s₁.setTop (mkF m 0 #[.val (.int sv), .val (.int ov), .val (.int pk), .unset, .unset, .unset, .unset, .unset, .unset] [])) _
    refine XS.iloadN X0.here hx rfl (hb hby at_0) rfl ?_
    show Steps p.tables e below (s₁.setTop (mkF m 1 #[.val (.int sv), .val (.int ov), .val (.int pk), .unset, .unset, .unset, .unset, .unset, .unset] [(.int pk)])) _
    refine XS.iconst X0.here hx rfl (hb hby at_1) ?_
    show Steps p.tables e below (s₁.setTop (mkF m 2 #[.val (.int sv), .val (.int ov), .val (.int pk), .unset, .unset, .unset, .unset, .unset, .unset] [(.int (1 : Int32)), (.int pk)])) _
    refine XS.iand X0.here hx rfl (hb hby at_2) rfl ?_
    show Steps p.tables e below (s₁.setTop (mkF m 3 #[.val (.int sv), .val (.int ov), .val (.int pk), .unset, .unset, .unset, .unset, .unset, .unset] [(.int (pk &&& (1 : Int32)))])) _
    by_cases c6 : (pk &&& (1 : Int32)) = (0 : Int32)
    · refine XS.ifNo X0.here hx rfl (hb hby at_3) rfl ((if0 _ _).trans (teq c6).2) ?_
      show Steps p.tables e below (s₁.setTop (mkF m 6 #[.val (.int sv), .val (.int ov), .val (.int pk), .unset, .unset, .unset, .unset, .unset, .unset] [])) _
      refine XS.iloadN X0.here hx rfl (hb hby at_6) rfl ?_
      show Steps p.tables e below (s₁.setTop (mkF m 7 #[.val (.int sv), .val (.int ov), .val (.int pk), .unset, .unset, .unset, .unset, .unset, .unset] [(.int sv)])) _
      refine XS.goto X0.here hx rfl (pc0 := 7) (pc' := 21) rfl (hb hby at_7) (by decide) (by decide) ?_
      show Steps p.tables e below (s₁.setTop (mkF m 21 #[.val (.int sv), .val (.int ov), .val (.int pk), .unset, .unset, .unset, .unset, .unset, .unset] [(.int sv)])) _
      have hv : own_status sv pk = sv := by unfold own_status; rw [if_pos c6]
      rw [hv] at k
      refine XS.istoreN X0.here hx rfl (hb hby at_21) rfl (l' := #[.val (.int sv), .val (.int ov), .val (.int pk), .val (.int sv), .unset, .unset, .unset, .unset, .unset]) rfl ?_
      show Steps p.tables e below (s₁.setTop (mkF m 22 #[.val (.int sv), .val (.int ov), .val (.int pk), .val (.int sv), .unset, .unset, .unset, .unset, .unset] [])) _
      exact k
    · refine XS.ifYes X0.here hx rfl (pc0 := 3) (pc' := 10) rfl (hb hby at_3) rfl ((if0 _ _).trans (feq c6).2) (by decide) (by decide) ?_
      show Steps p.tables e below (s₁.setTop (mkF m 10 #[.val (.int sv), .val (.int ov), .val (.int pk), .unset, .unset, .unset, .unset, .unset, .unset] [])) _
      refine XS.sipush X0.here hx rfl (hb hby at_10) ?_
      show Steps p.tables e below (s₁.setTop (mkF m 13 #[.val (.int sv), .val (.int ov), .val (.int pk), .unset, .unset, .unset, .unset, .unset, .unset] [(.int (398 : Int32))])) _
      refine XS.iloadN X0.here hx rfl (hb hby at_13) rfl ?_
      show Steps p.tables e below (s₁.setTop (mkF m 14 #[.val (.int sv), .val (.int ov), .val (.int pk), .unset, .unset, .unset, .unset, .unset, .unset] [(.int sv), (.int (398 : Int32))])) _
      refine X0.ldcInt hx hown (mvT hZ (hw _ (List.mem_of_getElem? (i := 5) rfl))) (g := (mkF m 14 #[.val (.int sv), .val (.int ov), .val (.int pk), .unset, .unset, .unset, .unset, .unset, .unset] [(.int sv), (.int (398 : Int32))])) rfl (hb hby at_14) _ ?_
      show Steps p.tables e below (s₁.setTop (mkF m 16 #[.val (.int sv), .val (.int ov), .val (.int pk), .unset, .unset, .unset, .unset, .unset, .unset] [(.int (2147483647 : Int32)), (.int sv), (.int (398 : Int32))])) _
      refine XS.iand X0.here hx rfl (hb hby at_16) rfl ?_
      show Steps p.tables e below (s₁.setTop (mkF m 17 #[.val (.int sv), .val (.int ov), .val (.int pk), .unset, .unset, .unset, .unset, .unset, .unset] [(.int (sv &&& (2147483647 : Int32))), (.int (398 : Int32))])) _
      refine XS.bipush X0.here hx rfl (hb hby at_17) ?_
      show Steps p.tables e below (s₁.setTop (mkF m 19 #[.val (.int sv), .val (.int ov), .val (.int pk), .unset, .unset, .unset, .unset, .unset, .unset] [(.int (6 : Int32)), (.int (sv &&& (2147483647 : Int32))), (.int (398 : Int32))])) _
      refine XS.irem X0.here hx rfl (hb hby at_19) rfl (by decide) ?_
      show Steps p.tables e below (s₁.setTop (mkF m 20 #[.val (.int sv), .val (.int ov), .val (.int pk), .unset, .unset, .unset, .unset, .unset, .unset] [(.int ((sv &&& (2147483647 : Int32)) - ((sv &&& (2147483647 : Int32)) / (6 : Int32)) * (6 : Int32))), (.int (398 : Int32))])) _
      refine XS.iadd X0.here hx rfl (hb hby at_20) rfl ?_
      show Steps p.tables e below (s₁.setTop (mkF m 21 #[.val (.int sv), .val (.int ov), .val (.int pk), .unset, .unset, .unset, .unset, .unset, .unset] [(.int ((398 : Int32) + ((sv &&& (2147483647 : Int32)) - ((sv &&& (2147483647 : Int32)) / (6 : Int32)) * (6 : Int32))))])) _
      have hv : own_status sv pk = ((398 : Int32) + ((sv &&& (2147483647 : Int32)) - ((sv &&& (2147483647 : Int32)) / (6 : Int32)) * (6 : Int32))) := by unfold own_status; rw [if_neg c6]
      rw [hv] at k
      refine XS.istoreN X0.here hx rfl (hb hby at_21) rfl (l' := #[.val (.int sv), .val (.int ov), .val (.int pk), .val (.int ((398 : Int32) + ((sv &&& (2147483647 : Int32)) - ((sv &&& (2147483647 : Int32)) / (6 : Int32)) * (6 : Int32)))), .unset, .unset, .unset, .unset, .unset]) rfl ?_
      show Steps p.tables e below (s₁.setTop (mkF m 22 #[.val (.int sv), .val (.int ov), .val (.int pk), .val (.int ((398 : Int32) + ((sv &&& (2147483647 : Int32)) - ((sv &&& (2147483647 : Int32)) / (6 : Int32)) * (6 : Int32)))), .unset, .unset, .unset, .unset, .unset] [])) _
      exact k
  have pre7 : ∀ t, Steps p.tables e below (s₁.setTop (mkF m 24 #[.val (.int sv), .val (.int ov), .val (.int pk), .val (.int (own_status sv pk)), .unset, .unset, .unset, .unset, .unset] [(.int ov), (.int (own_status sv pk))])) t → Steps p.tables e below (s₁.setTop (entryFrame m #[(.int sv), (.int ov), (.int pk)] maxLocals)) t := fun t k => by
    refine pre5 _ ?_
    show Steps p.tables e below (s₁.setTop (mkF m 22 #[.val (.int sv), .val (.int ov), .val (.int pk), .val (.int (own_status sv pk)), .unset, .unset, .unset, .unset, .unset] [])) _
    refine XS.iloadN X0.here hx rfl (hb hby at_22) rfl ?_
    show Steps p.tables e below (s₁.setTop (mkF m 23 #[.val (.int sv), .val (.int ov), .val (.int pk), .val (.int (own_status sv pk)), .unset, .unset, .unset, .unset, .unset] [(.int (own_status sv pk))])) _
    refine XS.iloadN X0.here hx rfl (hb hby at_23) rfl ?_
    show Steps p.tables e below (s₁.setTop (mkF m 24 #[.val (.int sv), .val (.int ov), .val (.int pk), .val (.int (own_status sv pk)), .unset, .unset, .unset, .unset, .unset] [(.int ov), (.int (own_status sv pk))])) _
    exact k
  obtain ⟨_, _, ⟨T8, L8, k8, n8⟩, -, X8, ⟨Lc8, hQ8, l8, y8, z8⟩, st8⟩ := Jvm.LawKit.callS X0 hx (y := (⟨"com/example/arrivall/arrivall/cli/ExitStatus", "ofRefusal", "(II)I"⟩ : MethodName)) hown (mvT hZ (hw _ (List.mem_of_getElem? (i := 0) rfl))) (mvT hZ (hw _ (List.mem_of_getElem? (i := 1) rfl))) (mvT hZ (hw _ (List.mem_of_getElem? (i := 2) rfl))) (mvT hZ (hw _ (List.mem_of_getElem? (i := 3) rfl))) (by decide) (backOf (W := 0) (rm1 l Z a0 hw [] (own_status sv pk) ov  h0 n0 Z0 ) hZ (hw _ (List.mem_of_getElem? (i := 3) rfl)) (hw _ (List.mem_of_getElem? (i := 2) rfl)) (by decide) (by decide)) (g := (mkF m 24 #[.val (.int sv), .val (.int ov), .val (.int pk), .val (.int (own_status sv pk)), .unset, .unset, .unset, .unset, .unset] [(.int ov), (.int (own_status sv pk))])) rfl (by rw [hml]; rfl) (argsL := [(.int (own_status sv pk)), (.int ov)]) (rest := []) (lenOf pd_0 rfl) rfl (by show 2 * 0 + _ ≤ _; exact Nat.le_of_eq rfl) (hb hby at_24) (fun _ _ => ⟨rfl, e0, (by decide : 0 + 0 ≤ _), (by decide : 0 + 0 ≤ _)⟩)
  dsimp only [Pt.U, Pt.locs, Pt.cells, Pt.slots] at X8 l8 y8 z8 st8 hQ8
  subst l8 y8 z8
  obtain ⟨rfl, N8q, e8⟩ := hQ8
  have N8 := Fr.app N0 N8q
  have pre8 : ∀ t, Steps p.tables e below (T8.setTop (mkF m 27 #[.val (.int sv), .val (.int ov), .val (.int pk), .val (.int (own_status sv pk)), .unset, .unset, .unset, .unset, .unset] [(.int (f1 (own_status sv pk) ov))])) t → Steps p.tables e below (s₁.setTop (entryFrame m #[(.int sv), (.int ov), (.int pk)] maxLocals)) t := fun t k => pre7 _ (st8 t k)
  obtain ⟨fs, hr, hrun, hended, hW, hsame⟩ := X8.leave (v := some (.int (1 : Int32))) (fun h => by rw [Bd.returns] at h; cases h)
  refine ⟨_, _, pre8 _ ?_, hrun, hended, _, _, rfl, ?_, ⟨_, rfl⟩, hW, hsame.mono (by decide) (by decide)⟩
  · show Steps p.tables e below (T8.setTop (mkF m 27 #[.val (.int sv), .val (.int ov), .val (.int pk), .val (.int (own_status sv pk)), .unset, .unset, .unset, .unset, .unset] [(.int (f1 (own_status sv pk) ov))])) _
    refine XS.istore X8.here hx rfl (hb hby at_27) rfl (l' := #[.val (.int sv), .val (.int ov), .val (.int pk), .val (.int (own_status sv pk)), .val (.int (f1 (own_status sv pk) ov)), .unset, .unset, .unset, .unset]) rfl ?_
    show Steps p.tables e below (T8.setTop (mkF m 29 #[.val (.int sv), .val (.int ov), .val (.int pk), .val (.int (own_status sv pk)), .val (.int (f1 (own_status sv pk) ov)), .unset, .unset, .unset, .unset] [])) _
    refine XS.iloadN X8.here hx rfl (hb hby at_29) rfl ?_
    show Steps p.tables e below (T8.setTop (mkF m 30 #[.val (.int sv), .val (.int ov), .val (.int pk), .val (.int (own_status sv pk)), .val (.int (f1 (own_status sv pk) ov)), .unset, .unset, .unset, .unset] [(.int (own_status sv pk))])) _
    refine XS.i2l X8.here hx rfl (hb hby at_30) rfl ?_
    show Steps p.tables e below (T8.setTop (mkF m 31 #[.val (.int sv), .val (.int ov), .val (.int pk), .val (.int (own_status sv pk)), .val (.int (f1 (own_status sv pk) ov)), .unset, .unset, .unset, .unset] [(.long ((own_status sv pk).toInt64))])) _
    refine X8.ldc2Long hx hown (mvT hZ (hw _ (List.mem_of_getElem? (i := 4) rfl))) (g := (mkF m 31 #[.val (.int sv), .val (.int ov), .val (.int pk), .val (.int (own_status sv pk)), .val (.int (f1 (own_status sv pk) ov)), .unset, .unset, .unset, .unset] [(.long ((own_status sv pk).toInt64))])) rfl (hb hby at_31) _ ?_
    show Steps p.tables e below (T8.setTop (mkF m 34 #[.val (.int sv), .val (.int ov), .val (.int pk), .val (.int (own_status sv pk)), .val (.int (f1 (own_status sv pk) ov)), .unset, .unset, .unset, .unset] [(.long (400 : Int64)), (.long ((own_status sv pk).toInt64))])) _
    refine XS.lsub X8.here hx rfl (hb hby at_34) rfl ?_
    show Steps p.tables e below (T8.setTop (mkF m 35 #[.val (.int sv), .val (.int ov), .val (.int pk), .val (.int (own_status sv pk)), .val (.int (f1 (own_status sv pk) ov)), .unset, .unset, .unset, .unset] [(.long (((own_status sv pk).toInt64) - (400 : Int64)))])) _
    refine XS.lstore X8.here hx rfl (hb hby at_35) rfl (l' := #[.val (.int sv), .val (.int ov), .val (.int pk), .val (.int (own_status sv pk)), .val (.int (f1 (own_status sv pk) ov)), .val (.long (((own_status sv pk).toInt64) - (400 : Int64))), .second, .unset, .unset]) rfl ?_
    show Steps p.tables e below (T8.setTop (mkF m 37 #[.val (.int sv), .val (.int ov), .val (.int pk), .val (.int (own_status sv pk)), .val (.int (f1 (own_status sv pk) ov)), .val (.long (((own_status sv pk).toInt64) - (400 : Int64))), .second, .unset, .unset] [])) _
    refine XS.lload X8.here hx rfl (hb hby at_37) rfl ?_
    show Steps p.tables e below (T8.setTop (mkF m 39 #[.val (.int sv), .val (.int ov), .val (.int pk), .val (.int (own_status sv pk)), .val (.int (f1 (own_status sv pk) ov)), .val (.long (((own_status sv pk).toInt64) - (400 : Int64))), .second, .unset, .unset] [(.long (((own_status sv pk).toInt64) - (400 : Int64)))])) _
    refine XS.lconst X8.here hx rfl (hb hby at_39) ?_
    show Steps p.tables e below (T8.setTop (mkF m 40 #[.val (.int sv), .val (.int ov), .val (.int pk), .val (.int (own_status sv pk)), .val (.int (f1 (own_status sv pk) ov)), .val (.long (((own_status sv pk).toInt64) - (400 : Int64))), .second, .unset, .unset] [(.long (0 : Int64)), (.long (((own_status sv pk).toInt64) - (400 : Int64)))])) _
    refine XS.lcmp X8.here hx rfl (hb hby at_40) rfl ?_
    show Steps p.tables e below (T8.setTop (mkF m 41 #[.val (.int sv), .val (.int ov), .val (.int pk), .val (.int (own_status sv pk)), .val (.int (f1 (own_status sv pk) ov)), .val (.long (((own_status sv pk).toInt64) - (400 : Int64))), .second, .unset, .unset] [(.int (lcmpW (((own_status sv pk).toInt64) - (400 : Int64)) (0 : Int64)))])) _
    by_cases c9 : (((own_status sv pk).toInt64) - (400 : Int64)) < (0 : Int64)
    · refine XS.ifYes X8.here hx rfl (pc0 := 41) (pc' := 55) rfl (hb hby at_41) rfl ((if0 _ _).trans (tlt ((lw_lt (((own_status sv pk).toInt64) - (400 : Int64)) (0 : Int64)).mpr c9)).1) (by decide) (by decide) ?_
      show Steps p.tables e below (T8.setTop (mkF m 55 #[.val (.int sv), .val (.int ov), .val (.int pk), .val (.int (own_status sv pk)), .val (.int (f1 (own_status sv pk) ov)), .val (.long (((own_status sv pk).toInt64) - (400 : Int64))), .second, .unset, .unset] [])) _
      refine XS.iconst X8.here hx rfl (hb hby at_55) ?_
      show Steps p.tables e below (T8.setTop (mkF m 56 #[.val (.int sv), .val (.int ov), .val (.int pk), .val (.int (own_status sv pk)), .val (.int (f1 (own_status sv pk) ov)), .val (.long (((own_status sv pk).toInt64) - (400 : Int64))), .second, .unset, .unset] [(.int (0 : Int32))])) _
      refine XS.istore X8.here hx rfl (hb hby at_56) rfl (l' := #[.val (.int sv), .val (.int ov), .val (.int pk), .val (.int (own_status sv pk)), .val (.int (f1 (own_status sv pk) ov)), .val (.long (((own_status sv pk).toInt64) - (400 : Int64))), .second, .val (.int (0 : Int32)), .unset]) rfl ?_
      show Steps p.tables e below (T8.setTop (mkF m 58 #[.val (.int sv), .val (.int ov), .val (.int pk), .val (.int (own_status sv pk)), .val (.int (f1 (own_status sv pk) ov)), .val (.long (((own_status sv pk).toInt64) - (400 : Int64))), .second, .val (.int (0 : Int32)), .unset] [])) _
      refine XS.iload X8.here hx rfl (hb hby at_58) rfl ?_
      show Steps p.tables e below (T8.setTop (mkF m 60 #[.val (.int sv), .val (.int ov), .val (.int pk), .val (.int (own_status sv pk)), .val (.int (f1 (own_status sv pk) ov)), .val (.long (((own_status sv pk).toInt64) - (400 : Int64))), .second, .val (.int (0 : Int32)), .unset] [(.int (0 : Int32))])) _
      refine XS.ifYes X8.here hx rfl (pc0 := 60) (pc' := 67) rfl (hb hby at_60) rfl ((if0 _ _).trans (teq (by decide : (0 : Int32) = (0 : Int32))).1) (by decide) (by decide) ?_
      show Steps p.tables e below (T8.setTop (mkF m 67 #[.val (.int sv), .val (.int ov), .val (.int pk), .val (.int (own_status sv pk)), .val (.int (f1 (own_status sv pk) ov)), .val (.long (((own_status sv pk).toInt64) - (400 : Int64))), .second, .val (.int (0 : Int32)), .unset] [])) _
      refine XS.iloadN X8.here hx rfl (hb hby at_67) rfl ?_
      show Steps p.tables e below (T8.setTop (mkF m 68 #[.val (.int sv), .val (.int ov), .val (.int pk), .val (.int (own_status sv pk)), .val (.int (f1 (own_status sv pk) ov)), .val (.long (((own_status sv pk).toInt64) - (400 : Int64))), .second, .val (.int (0 : Int32)), .unset] [(.int ov)])) _
      refine XS.istore X8.here hx rfl (hb hby at_68) rfl (l' := #[.val (.int sv), .val (.int ov), .val (.int pk), .val (.int (own_status sv pk)), .val (.int (f1 (own_status sv pk) ov)), .val (.long (((own_status sv pk).toInt64) - (400 : Int64))), .second, .val (.int (0 : Int32)), .val (.int ov)]) rfl ?_
      show Steps p.tables e below (T8.setTop (mkF m 70 #[.val (.int sv), .val (.int ov), .val (.int pk), .val (.int (own_status sv pk)), .val (.int (f1 (own_status sv pk) ov)), .val (.long (((own_status sv pk).toInt64) - (400 : Int64))), .second, .val (.int (0 : Int32)), .val (.int ov)] [])) _
      refine XS.iload X8.here hx rfl (hb hby at_70) rfl ?_
      show Steps p.tables e below (T8.setTop (mkF m 72 #[.val (.int sv), .val (.int ov), .val (.int pk), .val (.int (own_status sv pk)), .val (.int (f1 (own_status sv pk) ov)), .val (.long (((own_status sv pk).toInt64) - (400 : Int64))), .second, .val (.int (0 : Int32)), .val (.int ov)] [(.int (f1 (own_status sv pk) ov))])) _
      refine XS.iload X8.here hx rfl (hb hby at_72) rfl ?_
      show Steps p.tables e below (T8.setTop (mkF m 74 #[.val (.int sv), .val (.int ov), .val (.int pk), .val (.int (own_status sv pk)), .val (.int (f1 (own_status sv pk) ov)), .val (.long (((own_status sv pk).toInt64) - (400 : Int64))), .second, .val (.int (0 : Int32)), .val (.int ov)] [(.int ov), (.int (f1 (own_status sv pk) ov))])) _
      by_cases c10 : (f1 (own_status sv pk) ov) = ov
      · refine XS.icmpNo X8.here hx rfl (hb hby at_74) rfl (teq c10).2 ?_
        show Steps p.tables e below (T8.setTop (mkF m 77 #[.val (.int sv), .val (.int ov), .val (.int pk), .val (.int (own_status sv pk)), .val (.int (f1 (own_status sv pk) ov)), .val (.long (((own_status sv pk).toInt64) - (400 : Int64))), .second, .val (.int (0 : Int32)), .val (.int ov)] [])) _
        refine XS.iconst X8.here hx rfl (hb hby at_77) ?_
        show Steps p.tables e below (T8.setTop (mkF m 78 #[.val (.int sv), .val (.int ov), .val (.int pk), .val (.int (own_status sv pk)), .val (.int (f1 (own_status sv pk) ov)), .val (.long (((own_status sv pk).toInt64) - (400 : Int64))), .second, .val (.int (0 : Int32)), .val (.int ov)] [(.int (1 : Int32))])) _
        refine XS.goto X8.here hx rfl (pc0 := 78) (pc' := 82) rfl (hb hby at_78) (by decide) (by decide) ?_
        show Steps p.tables e below (T8.setTop (mkF m 82 #[.val (.int sv), .val (.int ov), .val (.int pk), .val (.int (own_status sv pk)), .val (.int (f1 (own_status sv pk) ov)), .val (.long (((own_status sv pk).toInt64) - (400 : Int64))), .second, .val (.int (0 : Int32)), .val (.int ov)] [(.int (1 : Int32))])) _
        exact retN X8 hx (t := .boolean) Bd.returns (by simp) (hb hby at_82) hr
      · refine XS.icmpYes X8.here hx rfl (pc0 := 74) (pc' := 81) rfl (hb hby at_74) rfl (feq c10).2 (by decide) (by decide) ?_
        show Steps p.tables e below (T8.setTop (mkF m 81 #[.val (.int sv), .val (.int ov), .val (.int pk), .val (.int (own_status sv pk)), .val (.int (f1 (own_status sv pk) ov)), .val (.long (((own_status sv pk).toInt64) - (400 : Int64))), .second, .val (.int (0 : Int32)), .val (.int ov)] [])) _
        refine XS.iconst X8.here hx rfl (hb hby at_81) ?_
        show Steps p.tables e below (T8.setTop (mkF m 82 #[.val (.int sv), .val (.int ov), .val (.int pk), .val (.int (own_status sv pk)), .val (.int (f1 (own_status sv pk) ov)), .val (.long (((own_status sv pk).toInt64) - (400 : Int64))), .second, .val (.int (0 : Int32)), .val (.int ov)] [(.int (0 : Int32))])) _
        exfalso
        have hp := own_pin (own_status sv pk) ov
        first | omega | (simp_all)
    · refine XS.ifNo X8.here hx rfl (hb hby at_41) rfl ((if0 _ _).trans (flt (fun q => c9 ((lw_lt (((own_status sv pk).toInt64) - (400 : Int64)) (0 : Int64)).mp q))).1) ?_
      show Steps p.tables e below (T8.setTop (mkF m 44 #[.val (.int sv), .val (.int ov), .val (.int pk), .val (.int (own_status sv pk)), .val (.int (f1 (own_status sv pk) ov)), .val (.long (((own_status sv pk).toInt64) - (400 : Int64))), .second, .unset, .unset] [])) _
      refine XS.lload X8.here hx rfl (hb hby at_44) rfl ?_
      show Steps p.tables e below (T8.setTop (mkF m 46 #[.val (.int sv), .val (.int ov), .val (.int pk), .val (.int (own_status sv pk)), .val (.int (f1 (own_status sv pk) ov)), .val (.long (((own_status sv pk).toInt64) - (400 : Int64))), .second, .unset, .unset] [(.long (((own_status sv pk).toInt64) - (400 : Int64)))])) _
      refine XS.lconst X8.here hx rfl (hb hby at_46) ?_
      show Steps p.tables e below (T8.setTop (mkF m 47 #[.val (.int sv), .val (.int ov), .val (.int pk), .val (.int (own_status sv pk)), .val (.int (f1 (own_status sv pk) ov)), .val (.long (((own_status sv pk).toInt64) - (400 : Int64))), .second, .unset, .unset] [(.long (1 : Int64)), (.long (((own_status sv pk).toInt64) - (400 : Int64)))])) _
      refine XS.lcmp X8.here hx rfl (hb hby at_47) rfl ?_
      show Steps p.tables e below (T8.setTop (mkF m 48 #[.val (.int sv), .val (.int ov), .val (.int pk), .val (.int (own_status sv pk)), .val (.int (f1 (own_status sv pk) ov)), .val (.long (((own_status sv pk).toInt64) - (400 : Int64))), .second, .unset, .unset] [(.int (lcmpW (((own_status sv pk).toInt64) - (400 : Int64)) (1 : Int64)))])) _
      by_cases c11 : (1 : Int64) < (((own_status sv pk).toInt64) - (400 : Int64))
      · refine XS.ifYes X8.here hx rfl (pc0 := 48) (pc' := 55) rfl (hb hby at_48) rfl ((if0 _ _).trans (tlt ((lw_gt (((own_status sv pk).toInt64) - (400 : Int64)) (1 : Int64)).mpr c11)).2.2.1) (by decide) (by decide) ?_
        show Steps p.tables e below (T8.setTop (mkF m 55 #[.val (.int sv), .val (.int ov), .val (.int pk), .val (.int (own_status sv pk)), .val (.int (f1 (own_status sv pk) ov)), .val (.long (((own_status sv pk).toInt64) - (400 : Int64))), .second, .unset, .unset] [])) _
        refine XS.iconst X8.here hx rfl (hb hby at_55) ?_
        show Steps p.tables e below (T8.setTop (mkF m 56 #[.val (.int sv), .val (.int ov), .val (.int pk), .val (.int (own_status sv pk)), .val (.int (f1 (own_status sv pk) ov)), .val (.long (((own_status sv pk).toInt64) - (400 : Int64))), .second, .unset, .unset] [(.int (0 : Int32))])) _
        refine XS.istore X8.here hx rfl (hb hby at_56) rfl (l' := #[.val (.int sv), .val (.int ov), .val (.int pk), .val (.int (own_status sv pk)), .val (.int (f1 (own_status sv pk) ov)), .val (.long (((own_status sv pk).toInt64) - (400 : Int64))), .second, .val (.int (0 : Int32)), .unset]) rfl ?_
        show Steps p.tables e below (T8.setTop (mkF m 58 #[.val (.int sv), .val (.int ov), .val (.int pk), .val (.int (own_status sv pk)), .val (.int (f1 (own_status sv pk) ov)), .val (.long (((own_status sv pk).toInt64) - (400 : Int64))), .second, .val (.int (0 : Int32)), .unset] [])) _
        refine XS.iload X8.here hx rfl (hb hby at_58) rfl ?_
        show Steps p.tables e below (T8.setTop (mkF m 60 #[.val (.int sv), .val (.int ov), .val (.int pk), .val (.int (own_status sv pk)), .val (.int (f1 (own_status sv pk) ov)), .val (.long (((own_status sv pk).toInt64) - (400 : Int64))), .second, .val (.int (0 : Int32)), .unset] [(.int (0 : Int32))])) _
        refine XS.ifYes X8.here hx rfl (pc0 := 60) (pc' := 67) rfl (hb hby at_60) rfl ((if0 _ _).trans (teq (by decide : (0 : Int32) = (0 : Int32))).1) (by decide) (by decide) ?_
        show Steps p.tables e below (T8.setTop (mkF m 67 #[.val (.int sv), .val (.int ov), .val (.int pk), .val (.int (own_status sv pk)), .val (.int (f1 (own_status sv pk) ov)), .val (.long (((own_status sv pk).toInt64) - (400 : Int64))), .second, .val (.int (0 : Int32)), .unset] [])) _
        refine XS.iloadN X8.here hx rfl (hb hby at_67) rfl ?_
        show Steps p.tables e below (T8.setTop (mkF m 68 #[.val (.int sv), .val (.int ov), .val (.int pk), .val (.int (own_status sv pk)), .val (.int (f1 (own_status sv pk) ov)), .val (.long (((own_status sv pk).toInt64) - (400 : Int64))), .second, .val (.int (0 : Int32)), .unset] [(.int ov)])) _
        refine XS.istore X8.here hx rfl (hb hby at_68) rfl (l' := #[.val (.int sv), .val (.int ov), .val (.int pk), .val (.int (own_status sv pk)), .val (.int (f1 (own_status sv pk) ov)), .val (.long (((own_status sv pk).toInt64) - (400 : Int64))), .second, .val (.int (0 : Int32)), .val (.int ov)]) rfl ?_
        show Steps p.tables e below (T8.setTop (mkF m 70 #[.val (.int sv), .val (.int ov), .val (.int pk), .val (.int (own_status sv pk)), .val (.int (f1 (own_status sv pk) ov)), .val (.long (((own_status sv pk).toInt64) - (400 : Int64))), .second, .val (.int (0 : Int32)), .val (.int ov)] [])) _
        refine XS.iload X8.here hx rfl (hb hby at_70) rfl ?_
        show Steps p.tables e below (T8.setTop (mkF m 72 #[.val (.int sv), .val (.int ov), .val (.int pk), .val (.int (own_status sv pk)), .val (.int (f1 (own_status sv pk) ov)), .val (.long (((own_status sv pk).toInt64) - (400 : Int64))), .second, .val (.int (0 : Int32)), .val (.int ov)] [(.int (f1 (own_status sv pk) ov))])) _
        refine XS.iload X8.here hx rfl (hb hby at_72) rfl ?_
        show Steps p.tables e below (T8.setTop (mkF m 74 #[.val (.int sv), .val (.int ov), .val (.int pk), .val (.int (own_status sv pk)), .val (.int (f1 (own_status sv pk) ov)), .val (.long (((own_status sv pk).toInt64) - (400 : Int64))), .second, .val (.int (0 : Int32)), .val (.int ov)] [(.int ov), (.int (f1 (own_status sv pk) ov))])) _
        by_cases c12 : (f1 (own_status sv pk) ov) = ov
        · refine XS.icmpNo X8.here hx rfl (hb hby at_74) rfl (teq c12).2 ?_
          show Steps p.tables e below (T8.setTop (mkF m 77 #[.val (.int sv), .val (.int ov), .val (.int pk), .val (.int (own_status sv pk)), .val (.int (f1 (own_status sv pk) ov)), .val (.long (((own_status sv pk).toInt64) - (400 : Int64))), .second, .val (.int (0 : Int32)), .val (.int ov)] [])) _
          refine XS.iconst X8.here hx rfl (hb hby at_77) ?_
          show Steps p.tables e below (T8.setTop (mkF m 78 #[.val (.int sv), .val (.int ov), .val (.int pk), .val (.int (own_status sv pk)), .val (.int (f1 (own_status sv pk) ov)), .val (.long (((own_status sv pk).toInt64) - (400 : Int64))), .second, .val (.int (0 : Int32)), .val (.int ov)] [(.int (1 : Int32))])) _
          refine XS.goto X8.here hx rfl (pc0 := 78) (pc' := 82) rfl (hb hby at_78) (by decide) (by decide) ?_
          show Steps p.tables e below (T8.setTop (mkF m 82 #[.val (.int sv), .val (.int ov), .val (.int pk), .val (.int (own_status sv pk)), .val (.int (f1 (own_status sv pk) ov)), .val (.long (((own_status sv pk).toInt64) - (400 : Int64))), .second, .val (.int (0 : Int32)), .val (.int ov)] [(.int (1 : Int32))])) _
          exact retN X8 hx (t := .boolean) Bd.returns (by simp) (hb hby at_82) hr
        · refine XS.icmpYes X8.here hx rfl (pc0 := 74) (pc' := 81) rfl (hb hby at_74) rfl (feq c12).2 (by decide) (by decide) ?_
          show Steps p.tables e below (T8.setTop (mkF m 81 #[.val (.int sv), .val (.int ov), .val (.int pk), .val (.int (own_status sv pk)), .val (.int (f1 (own_status sv pk) ov)), .val (.long (((own_status sv pk).toInt64) - (400 : Int64))), .second, .val (.int (0 : Int32)), .val (.int ov)] [])) _
          refine XS.iconst X8.here hx rfl (hb hby at_81) ?_
          show Steps p.tables e below (T8.setTop (mkF m 82 #[.val (.int sv), .val (.int ov), .val (.int pk), .val (.int (own_status sv pk)), .val (.int (f1 (own_status sv pk) ov)), .val (.long (((own_status sv pk).toInt64) - (400 : Int64))), .second, .val (.int (0 : Int32)), .val (.int ov)] [(.int (0 : Int32))])) _
          exfalso
          have hp := own_pin (own_status sv pk) ov
          first | omega | (simp_all)
      · refine XS.ifNo X8.here hx rfl (hb hby at_48) rfl ((if0 _ _).trans (flt (fun q => c11 ((lw_gt (((own_status sv pk).toInt64) - (400 : Int64)) (1 : Int64)).mp q))).2.2.1) ?_
        show Steps p.tables e below (T8.setTop (mkF m 51 #[.val (.int sv), .val (.int ov), .val (.int pk), .val (.int (own_status sv pk)), .val (.int (f1 (own_status sv pk) ov)), .val (.long (((own_status sv pk).toInt64) - (400 : Int64))), .second, .unset, .unset] [])) _
        refine XS.iconst X8.here hx rfl (hb hby at_51) ?_
        show Steps p.tables e below (T8.setTop (mkF m 52 #[.val (.int sv), .val (.int ov), .val (.int pk), .val (.int (own_status sv pk)), .val (.int (f1 (own_status sv pk) ov)), .val (.long (((own_status sv pk).toInt64) - (400 : Int64))), .second, .unset, .unset] [(.int (1 : Int32))])) _
        refine XS.goto X8.here hx rfl (pc0 := 52) (pc' := 56) rfl (hb hby at_52) (by decide) (by decide) ?_
        show Steps p.tables e below (T8.setTop (mkF m 56 #[.val (.int sv), .val (.int ov), .val (.int pk), .val (.int (own_status sv pk)), .val (.int (f1 (own_status sv pk) ov)), .val (.long (((own_status sv pk).toInt64) - (400 : Int64))), .second, .unset, .unset] [(.int (1 : Int32))])) _
        refine XS.istore X8.here hx rfl (hb hby at_56) rfl (l' := #[.val (.int sv), .val (.int ov), .val (.int pk), .val (.int (own_status sv pk)), .val (.int (f1 (own_status sv pk) ov)), .val (.long (((own_status sv pk).toInt64) - (400 : Int64))), .second, .val (.int (1 : Int32)), .unset]) rfl ?_
        show Steps p.tables e below (T8.setTop (mkF m 58 #[.val (.int sv), .val (.int ov), .val (.int pk), .val (.int (own_status sv pk)), .val (.int (f1 (own_status sv pk) ov)), .val (.long (((own_status sv pk).toInt64) - (400 : Int64))), .second, .val (.int (1 : Int32)), .unset] [])) _
        refine XS.iload X8.here hx rfl (hb hby at_58) rfl ?_
        show Steps p.tables e below (T8.setTop (mkF m 60 #[.val (.int sv), .val (.int ov), .val (.int pk), .val (.int (own_status sv pk)), .val (.int (f1 (own_status sv pk) ov)), .val (.long (((own_status sv pk).toInt64) - (400 : Int64))), .second, .val (.int (1 : Int32)), .unset] [(.int (1 : Int32))])) _
        refine XS.ifNo X8.here hx rfl (hb hby at_60) rfl ((if0 _ _).trans (feq (by decide : ¬ ((1 : Int32) = (0 : Int32)))).1) ?_
        show Steps p.tables e below (T8.setTop (mkF m 63 #[.val (.int sv), .val (.int ov), .val (.int pk), .val (.int (own_status sv pk)), .val (.int (f1 (own_status sv pk) ov)), .val (.long (((own_status sv pk).toInt64) - (400 : Int64))), .second, .val (.int (1 : Int32)), .unset] [])) _
        refine XS.iconst X8.here hx rfl (hb hby at_63) ?_
        show Steps p.tables e below (T8.setTop (mkF m 64 #[.val (.int sv), .val (.int ov), .val (.int pk), .val (.int (own_status sv pk)), .val (.int (f1 (own_status sv pk) ov)), .val (.long (((own_status sv pk).toInt64) - (400 : Int64))), .second, .val (.int (1 : Int32)), .unset] [(.int (1 : Int32))])) _
        refine XS.goto X8.here hx rfl (pc0 := 64) (pc' := 68) rfl (hb hby at_64) (by decide) (by decide) ?_
        show Steps p.tables e below (T8.setTop (mkF m 68 #[.val (.int sv), .val (.int ov), .val (.int pk), .val (.int (own_status sv pk)), .val (.int (f1 (own_status sv pk) ov)), .val (.long (((own_status sv pk).toInt64) - (400 : Int64))), .second, .val (.int (1 : Int32)), .unset] [(.int (1 : Int32))])) _
        refine XS.istore X8.here hx rfl (hb hby at_68) rfl (l' := #[.val (.int sv), .val (.int ov), .val (.int pk), .val (.int (own_status sv pk)), .val (.int (f1 (own_status sv pk) ov)), .val (.long (((own_status sv pk).toInt64) - (400 : Int64))), .second, .val (.int (1 : Int32)), .val (.int (1 : Int32))]) rfl ?_
        show Steps p.tables e below (T8.setTop (mkF m 70 #[.val (.int sv), .val (.int ov), .val (.int pk), .val (.int (own_status sv pk)), .val (.int (f1 (own_status sv pk) ov)), .val (.long (((own_status sv pk).toInt64) - (400 : Int64))), .second, .val (.int (1 : Int32)), .val (.int (1 : Int32))] [])) _
        refine XS.iload X8.here hx rfl (hb hby at_70) rfl ?_
        show Steps p.tables e below (T8.setTop (mkF m 72 #[.val (.int sv), .val (.int ov), .val (.int pk), .val (.int (own_status sv pk)), .val (.int (f1 (own_status sv pk) ov)), .val (.long (((own_status sv pk).toInt64) - (400 : Int64))), .second, .val (.int (1 : Int32)), .val (.int (1 : Int32))] [(.int (f1 (own_status sv pk) ov))])) _
        refine XS.iload X8.here hx rfl (hb hby at_72) rfl ?_
        show Steps p.tables e below (T8.setTop (mkF m 74 #[.val (.int sv), .val (.int ov), .val (.int pk), .val (.int (own_status sv pk)), .val (.int (f1 (own_status sv pk) ov)), .val (.long (((own_status sv pk).toInt64) - (400 : Int64))), .second, .val (.int (1 : Int32)), .val (.int (1 : Int32))] [(.int (1 : Int32)), (.int (f1 (own_status sv pk) ov))])) _
        by_cases c13 : (f1 (own_status sv pk) ov) = (1 : Int32)
        · refine XS.icmpNo X8.here hx rfl (hb hby at_74) rfl (teq c13).2 ?_
          show Steps p.tables e below (T8.setTop (mkF m 77 #[.val (.int sv), .val (.int ov), .val (.int pk), .val (.int (own_status sv pk)), .val (.int (f1 (own_status sv pk) ov)), .val (.long (((own_status sv pk).toInt64) - (400 : Int64))), .second, .val (.int (1 : Int32)), .val (.int (1 : Int32))] [])) _
          refine XS.iconst X8.here hx rfl (hb hby at_77) ?_
          show Steps p.tables e below (T8.setTop (mkF m 78 #[.val (.int sv), .val (.int ov), .val (.int pk), .val (.int (own_status sv pk)), .val (.int (f1 (own_status sv pk) ov)), .val (.long (((own_status sv pk).toInt64) - (400 : Int64))), .second, .val (.int (1 : Int32)), .val (.int (1 : Int32))] [(.int (1 : Int32))])) _
          refine XS.goto X8.here hx rfl (pc0 := 78) (pc' := 82) rfl (hb hby at_78) (by decide) (by decide) ?_
          show Steps p.tables e below (T8.setTop (mkF m 82 #[.val (.int sv), .val (.int ov), .val (.int pk), .val (.int (own_status sv pk)), .val (.int (f1 (own_status sv pk) ov)), .val (.long (((own_status sv pk).toInt64) - (400 : Int64))), .second, .val (.int (1 : Int32)), .val (.int (1 : Int32))] [(.int (1 : Int32))])) _
          exact retN X8 hx (t := .boolean) Bd.returns (by simp) (hb hby at_82) hr
        · refine XS.icmpYes X8.here hx rfl (pc0 := 74) (pc' := 81) rfl (hb hby at_74) rfl (feq c13).2 (by decide) (by decide) ?_
          show Steps p.tables e below (T8.setTop (mkF m 81 #[.val (.int sv), .val (.int ov), .val (.int pk), .val (.int (own_status sv pk)), .val (.int (f1 (own_status sv pk) ov)), .val (.long (((own_status sv pk).toInt64) - (400 : Int64))), .second, .val (.int (1 : Int32)), .val (.int (1 : Int32))] [])) _
          refine XS.iconst X8.here hx rfl (hb hby at_81) ?_
          show Steps p.tables e below (T8.setTop (mkF m 82 #[.val (.int sv), .val (.int ov), .val (.int pk), .val (.int (own_status sv pk)), .val (.int (f1 (own_status sv pk) ov)), .val (.long (((own_status sv pk).toInt64) - (400 : Int64))), .second, .val (.int (1 : Int32)), .val (.int (1 : Int32))] [(.int (0 : Int32))])) _
          exfalso
          have hp := own_pin (own_status sv pk) ov
          first | omega | (simp_all)
  · show Q0 sv ov pk h0 n0 _ T8.heap _
    exact ⟨rfl, N8⟩
set_option maxRecDepth 65536 in
set_option maxHeartbeats 40000000 in
theorem comes_1 {Post : Tables → Env → Array Value → State → Outcome → State → Prop} (hpost : ∀ tb e args s v u, (limb_1_1.after args s (.returned v) u = true ∧ limb_1_2.after args s (.returned v) u = true ∧ True) → FrameEnd s (.returned v) u (Jvm.fieldLocs frame_1_writes args s ++ Jvm.arrayLocs frame_1_arrays args s ++ Jvm.staticLocs frame_1_statics s) 0 0 → Post tb e args s (.returned v) u) :
    ArmFor flags0 classFile x code maxLocals ret World_1 tables_1 room_1 Calls_1 rest_1 Pre_1 Post := by
  intro l hfl _ _ p e ha hc hk s m args below hf hA hF happ hP
  obtain ⟨hcalls, hrest, hpre⟩ := hP
  obtain ⟨-, -, -, hnamed, -, -, -, hat⟩ := (Spec.applies_iff hf).mp happ
  obtain ⟨hg, hn⟩ := and_e (Cond.before_iff.mp (show (Jvm.Cond.and given_1 narrow_1).before args s = true from hpre))
  obtain ⟨ga0, gb0⟩ := and_e hg
  obtain ⟨ga1, gb1⟩ := and_e gb0
  obtain ⟨ga2, gb2⟩ := and_e gb1
  obtain ⟨w0, w1, w2, rfl⟩ : ∃ w0 w1 w2 : Value, args = #[w0, w1, w2] := by
    have hs : args.size = 3 := by simpa [Cond.value, given_1] using ga0
    obtain ⟨L⟩ := args
    match L, hs with
    | [w0, w1, w2], _ => exact ⟨w0, w1, w2, rfl⟩
  have hw := fun d (hd : d ∈ tables_1) => atoms_spec (ws := Jvm.Cond.code x code maxLocals ret :: tables_1) hat d (List.mem_cons_of_mem _ hd)
  have hfit : Fit s := fun {y c} hc i hi => by
    obtain ⟨ha, rfl⟩ := Array.getElem?_eq_some_iff.mp hc
    have q := List.all_eq_true.mp ((Array.all_eq_true_iff_forall_mem.mp hF) _ (Array.getElem_mem ha)) i (List.mem_range.mpr hi)
    simpa [Array.getElem?_eq_getElem hi] using q
  obtain ⟨i0, ei0⟩ := is_v ga1
  obtain rfl : w0 = (.int i0) := Option.some.inj ei0
  obtain ⟨i1, ei1⟩ := is_v ga2
  obtain rfl : w1 = (.int i1) := Option.some.inj ei1
  obtain ⟨i2, ei2⟩ := is_v gb2
  obtain rfl : w2 = (.int i2) := Option.some.inj ei2
  obtain ⟨n, o, h1, h2, h3, _, L, rfl, ⟨rfl, N⟩, hq⟩ := rm0 l s _ hw tables_1 i0 i1 i2  s.heap s.heap.size (Nat.le_refl _)  p e ha hc hk s m _ below hf ((Spec.applies_iff_loose hf).mp happ).1 ⟨rfl, State.Warmed39.refl s, rfl⟩ trivial
  refine ⟨n, _, h1, h2, h3, hpost _ _ _ _ _ _ ⟨Cond.after_iff.mpr rfl, Cond.after_iff.mpr (eq_i res_at (Term.int_eval (1)) rfl), trivial⟩ ⟨hq.1, hq.2.1, (hq.2.2.sift fun y hy => Or.inr (N y hy)).mono (by decide) (by decide)⟩⟩
theorem main_1_1 : Claimed_1_1 := comes_1 fun _ _ _ _ _ _ h hF => ⟨h.1, hF⟩
theorem main_1_2 : Claimed_1_2 := comes_1 fun _ _ _ _ _ _ h hF => ⟨h.2.1, hF⟩
end Jvm.Pilot.@@N@@
namespace Jvm.Pilot.@@N@@
open Jvm Jvm.ClassFile Sem Op Lib Jvm.Free Jvm.Stand Jvm.Pilot.@@N@@.Jvm.D
/-! MADE BY PROGRAM (witnessworld.py) out of the Statement's table words and the real class files: 7 classes; the members and pool entries that the words name. The judged class is class 1, her method 1. -/
namespace start1
open Jvm.ClassFile
def u (s : String) : CpInfo := .utf8 (stringToUtf16 s)
/-- a pool by its gaps: so many unusable entries, then the entry; so many at the end -/
def gap : Nat → List CpInfo → List CpInfo
  | 0, r => r
  | n + 1, r => .unusable :: gap n r
def poolList (es : List (Nat × CpInfo)) (last : Nat) : List CpInfo := es.foldr (fun e r => gap e.1 (e.2 :: r)) (gap last [])
def pool (es : List (Nat × CpInfo)) (last : Nat) : Array CpInfo := ⟨poolList es last⟩
def fileOf (pool : Array CpInfo) (this : Nat) (attrs : Array Attribute := #[]) (ms : Array MethodInfo := #[]) (fl : Nat := 33) (sup : Nat := 0) (ifs : Array Nat := #[]) (fds : Array FieldInfo := #[]) : ClassFile where
  minorVersion := 0
  majorVersion := 65
  constantPool := pool
  accessFlags := fl
  thisClass := this
  superClass := sup
  interfaces := ifs
  fields := fds
  methods := ms
  attributes := attrs
def plain (name : String) (sup : Option ClassId) : Class where
  name := name
  kind := .ordinary
  loader := none
  accessFlags := 33
  super := sup
  interfaces := #[]
  cf := none
  fields := #[]
  methods := #[]
  instanceTypes := #[]
  staticTypes := #[]
  resolved := #[]
  callSites := []
  init := .initialized
  statics := none
  mirror := none

def pool0 : Array CpInfo := pool [(5, u "<init>"), (0, u "()V"), (1, .class_ 10), (1, u "java/lang/Object")] 113

def k0m0 : Method := { name := "<init>", desc := "()V", sig := { parameters := [], returnType := none }, accessFlags := 1, code := none }
/-- java/lang/Object -/
def k0 : Class := { plain "java/lang/Object" none with
  accessFlags := 33
  interfaces := #[]
  cf := some (fileOf pool0 8 #[] #[{ accessFlags := 1, nameIndex := 5, descriptorIndex := 6, attributes := #[] }] 33 0 #[] #[])
  fields := #[]
  methods := #[k0m0]
  instanceTypes := #[]
  staticTypes := #[]
  resolved := Array.replicate 124 none
  statics := none }

def pool1 : Array CpInfo := pool [(2, .class_ 4), (1, u "java/lang/Object"), (0, u "<init>"), (0, u "()V"), (0, .integer 2147483647), (0, .methodref 9 10), (0, .class_ 11), (0, .nameAndType 12 13), (0, u "com/example/arrivall/arrivall/cli/ExitStatus"), (0, u "ofRefusal"), (0, u "(II)I"), (0, .long 400), (1, .class_ 17), (0, u "com/example/arrivall/arrivall/cli/ExitStatusOfRefusalPinLaw"), (2, u "law"), (0, u "(III)Z")] 3

def k1m0 : Method := { name := "<init>", desc := "()V", sig := { parameters := [], returnType := none }, accessFlags := 2, code := none }
def k1c1 : Code := { maxStack := 4, maxLocals := 9, code := code, exceptionTable := #[], attributes := #[] }
def k1m1 : Method := { name := "law", desc := "(III)Z", sig := { parameters := [.int, .int, .int], returnType := some .boolean }, accessFlags := 9, code := some k1c1 }
/-- com/example/arrivall/arrivall/cli/ExitStatusOfRefusalPinLaw -/
def k1 : Class := { plain "com/example/arrivall/arrivall/cli/ExitStatusOfRefusalPinLaw" (some 0) with
  accessFlags := 49
  interfaces := #[]
  cf := some (fileOf pool1 16 #[] #[{ accessFlags := 2, nameIndex := 5, descriptorIndex := 6, attributes := #[] }, { accessFlags := 9, nameIndex := 20, descriptorIndex := 21, attributes := #[] }] 49 2 #[] #[])
  fields := #[]
  methods := #[k1m0, k1m1]
  instanceTypes := #[]
  staticTypes := #[]
  resolved := Array.replicate 25 none
  statics := none }

def pool2 : Array CpInfo := pool [(2, .class_ 4), (1, u "java/lang/Object"), (0, u "<init>"), (0, u "()V"), (2, .class_ 10), (0, u "com/example/arrivall/arrivall/cli/ExitStatus"), (1, .class_ 14), (1, u "com/example/arrivall/arrivall/cli/ExitStatus$1"), (13, u "DONE"), (0, u "I"), (2, u "ERROR"), (1, u "DOWNGRADED"), (1, u "FAILED"), (1, u "OUTPUT_LOST"), (1, u "CANNOT_RUN"), (3, u "ofRefusal"), (0, u "(II)I")] 7

def k2m0 : Method := { name := "<init>", desc := "()V", sig := { parameters := [], returnType := none }, accessFlags := 2, code := none }
def k2c1 : Code := { maxStack := 2, maxLocals := 2, code := prog_8_method_2_code, exceptionTable := #[], attributes := #[] }
def k2m1 : Method := { name := "ofRefusal", desc := "(II)I", sig := { parameters := [.int, .int], returnType := some .int }, accessFlags := 8, code := some k2c1 }
/-- com/example/arrivall/arrivall/cli/ExitStatus -/
def k2 : Class := { plain "com/example/arrivall/arrivall/cli/ExitStatus" (some 0) with
  accessFlags := 49
  interfaces := #[]
  cf := some (fileOf pool2 9 #[.nestMembers #[12]] #[{ accessFlags := 2, nameIndex := 5, descriptorIndex := 6, attributes := #[] }, { accessFlags := 8, nameIndex := 44, descriptorIndex := 45, attributes := #[] }] 49 2 #[] #[{ accessFlags := 24, nameIndex := 28, descriptorIndex := 29, attributes := #[] }, { accessFlags := 25, nameIndex := 32, descriptorIndex := 29, attributes := #[] }, { accessFlags := 24, nameIndex := 34, descriptorIndex := 29, attributes := #[] }, { accessFlags := 24, nameIndex := 36, descriptorIndex := 29, attributes := #[] }, { accessFlags := 24, nameIndex := 38, descriptorIndex := 29, attributes := #[] }, { accessFlags := 24, nameIndex := 40, descriptorIndex := 29, attributes := #[] }])
  fields := #[{ name := "DONE", type := .int, accessFlags := 24, slot := 0, constantValue := 0 }, { name := "ERROR", type := .int, accessFlags := 25, slot := 1, constantValue := 0 }, { name := "DOWNGRADED", type := .int, accessFlags := 24, slot := 2, constantValue := 0 }, { name := "FAILED", type := .int, accessFlags := 24, slot := 3, constantValue := 0 }, { name := "OUTPUT_LOST", type := .int, accessFlags := 24, slot := 4, constantValue := 0 }, { name := "CANNOT_RUN", type := .int, accessFlags := 24, slot := 5, constantValue := 0 }]
  methods := #[k2m0, k2m1]
  instanceTypes := #[]
  staticTypes := #[.int, .int, .int, .int, .int, .int]
  resolved := Array.replicate 53 none
  statics := none }

def pool3 : Array CpInfo := pool [(1, u "java/lang/Cloneable"), (0, .class_ 1), (0, u "java/lang/Object"), (0, .class_ 3)] 3

/-- java/lang/Cloneable -/
def k3 : Class := { plain "java/lang/Cloneable" (some 0) with
  accessFlags := 1537
  interfaces := #[]
  cf := some (fileOf pool3 2 #[] #[] 1537 4 #[] #[])
  fields := #[]
  methods := #[]
  instanceTypes := #[]
  staticTypes := #[]
  resolved := Array.replicate 8 none
  statics := none }

def pool4 : Array CpInfo := pool [(1, u "java/io/Serializable"), (0, .class_ 1), (0, u "java/lang/Object"), (0, .class_ 3)] 3

/-- java/io/Serializable -/
def k4 : Class := { plain "java/io/Serializable" (some 0) with
  accessFlags := 1537
  interfaces := #[]
  cf := some (fileOf pool4 2 #[] #[] 1537 4 #[] #[])
  fields := #[]
  methods := #[]
  instanceTypes := #[]
  staticTypes := #[]
  resolved := Array.replicate 8 none
  statics := none }

/-- the primitive byte -/
def k5 : Class := { plain "byte" none with kind := .primitive 'B', accessFlags := 0x411 }
/-- [B -/
def k6 : Class := { plain "[B" (some 0) with kind := .array 5 .byte, interfaces := #[3, 4], accessFlags := 1041 }

def heap : Heap := #[]
def classes : Array Class := #[k0, k1, k2, k3, k4, k5, k6]
def interned : List (Array UInt16 × Addr) := []
def slotsUsed : Nat := 0
def theMethod : MethodId := ⟨1, 1⟩
def args0 : Array Value := #[.int 5, .int 3, .int 0]
def aboutOver (below : List Frame) : State where
  vm := { classes := classes, interned := interned.toArray }
  heap := heap
  slotsUsed := slotsUsed
  threads := #[{ frames := .invoking theMethod args0 :: below }]
def below0 : List Frame := [.native { method := ⟨0, 0⟩, args := #[] }]
def about1 : State := aboutOver below0
def p0 : Program := .bare "" "" ""
def e0 : Env := launch0.env 0 0 0
theorem w_frames : about1.frames = Frame.invoking theMethod args0 :: below0 := rfl
set_option maxRecDepth 65536 in
theorem w_args : argsFit about1.vm theMethod args0 = true := by decide +kernel
set_option maxRecDepth 65536 in
theorem w_heap : heapFits about1 = true := by decide +kernel
set_option maxRecDepth 65536 in
theorem w_runnable : about1.curStatus? = some .runnable := by decide +kernel
set_option maxRecDepth 65536 in
theorem w_alone : about1.alone = true := by decide +kernel
set_option maxRecDepth 65536 in
theorem w_named : about1.methodNamed? x = some theMethod := by decide +kernel
set_option maxRecDepth 65536 in
theorem w_hears : about1.hears theMethod below0 = true := by decide +kernel
set_option maxRecDepth 65536 in
theorem w_ripe : about1.ripe theMethod args0 below0 = true := by decide +kernel
theorem w_running : about1.status = .running := rfl
set_option maxRecDepth 65536 in
theorem w_room : about1.hasRoom e0.platform room_1 = true :=
  launch0.hasRoom_least _ room_1 (by decide +kernel) (by decide +kernel) (by decide +kernel) (by decide +kernel) (by decide +kernel) (by decide +kernel)
theorem allAtoms_all (ts : List Jvm.Cond) (a : Array Jvm.Value) (st : Jvm.State) : (allAtoms ts).before a st = ts.all (fun c => c.before a st) := by
  induction ts with
  | nil => rfl
  | cons c t ih =>
    show (Jvm.Cond.and c (allAtoms t)).before a st = _
    rw [Jvm.Cond.before_and, ih, List.all_cons]
def words1 : List Jvm.Cond := Jvm.Cond.code x code maxLocals ret :: tables_1
/-- a 'code' word, met by the world's own term for the bytes: nothing is compared byte by byte -/
theorem code_word {y : MethodName} {bytes : ByteArray} {mx : Nat} {rt : Option FieldType} {a : Array Value} {s : State} {m : MethodId} {meth : Method} {c : Code} (h1 : s.methodNamed? y = some m) (h2 : s.vm.method? m = some meth) (h3 : meth.code = some c) (h4 : c.code = bytes)
    (h5 : (c.maxLocals == mx && c.exceptionTable.isEmpty && decide (c.maxStack ≤ mostOperands) && decide (meth.sig.returnType = rt) && !meth.locks && decide (parseMethodDescriptor y.desc = some meth.sig)) = true) : (Jvm.Cond.code y bytes mx rt).before a s = true := by
  simp only [Bool.and_eq_true, beq_iff_eq, Bool.not_eq_true', decide_eq_true_eq] at h5
  obtain ⟨⟨⟨⟨⟨g1, g2⟩, g3⟩, g4⟩, g5⟩, g6⟩ := h5
  simp [Cond.before, Cond.holds, Cond.value, h1, h2, h3, h4, g1, g2, g3, g4, g5, g6]
def isCode : Jvm.Cond → Bool
  | .code _ _ _ _ => true
  | _ => false
theorem all_split {L : List Jvm.Cond} {P : Jvm.Cond → Bool} (h1 : L.all (fun c => isCode c || P c) = true) (h2 : ∀ c ∈ L.filter isCode, P c = true) : L.all P = true := by
  refine List.all_eq_true.mpr fun c hc => ?_
  have h := List.all_eq_true.mp h1 c hc
  rcases Bool.eq_false_or_eq_true (isCode c) with hi | hi
  · exact h2 c (List.mem_filter.mpr ⟨hc, hi⟩)
  · simpa [hi] using h
set_option maxRecDepth 65536 in
theorem w_c0 : (Jvm.Cond.code x code maxLocals ret).before args0 about1 = true := code_word (m := ⟨1, 1⟩) (meth := k1m1) (c := k1c1) (by decide +kernel) rfl rfl rfl (by decide +kernel)
set_option maxRecDepth 65536 in
theorem w_c1 : (Jvm.Cond.code ({ cls := "com/example/arrivall/arrivall/cli/ExitStatus", name := "ofRefusal", desc := "(II)I" } : Jvm.MethodName) prog_8_method_2_code (2 : Nat) (Option.some Jvm.ClassFile.FieldType.int)).before args0 about1 = true := code_word (m := ⟨2, 1⟩) (meth := k2m1) (c := k2c1) (by decide +kernel) rfl rfl rfl (by decide +kernel)
def codes1 : List Jvm.Cond := [Jvm.Cond.code x code maxLocals ret, Jvm.Cond.code ({ cls := "com/example/arrivall/arrivall/cli/ExitStatus", name := "ofRefusal", desc := "(II)I" } : Jvm.MethodName) prog_8_method_2_code (2 : Nat) (Option.some Jvm.ClassFile.FieldType.int)]
set_option maxRecDepth 65536 in
theorem codes_eq : words1.filter isCode = codes1 := rfl
theorem w_codes : ∀ c ∈ words1.filter isCode, c.before args0 about1 = true := by
  rw [codes_eq]
  intro c hc
  simp only [codes1, List.mem_cons, List.not_mem_nil, or_false] at hc
  rcases hc with rfl | rfl
  · exact w_c0
  · exact w_c1
set_option maxRecDepth 65536 in
theorem w_t1 : words1.all (fun c => isCode c || c.before args0 about1) = true := by decide +kernel
theorem w_tables : (allAtoms (Jvm.Cond.code x code maxLocals ret :: tables_1)).before args0 about1 = true := by
  rw [allAtoms_all]
  show words1.all (fun c => c.before args0 about1) = true
  refine all_split ?_ w_codes
  rw [w_t1]
set_option maxRecDepth 65536 in
theorem w_case : (Jvm.Cond.and given_1 narrow_1).before args0 about1 = true := by decide +kernel
theorem w_applies : (headSpec (Jvm.Cond.code x code maxLocals ret :: tables_1) room_1).applies x e0.platform about1 = true :=
  (Spec.applies_iff w_frames).mpr ⟨w_running, w_runnable, w_alone, w_named, w_hears, w_ripe, w_room, w_tables⟩
theorem atStart : AtStart classFile x code maxLocals ret World_1 tables_1 room_1 Calls_1 rest_1 Pre_1 launch0 p0 e0 about1 theMethod args0 below0 :=
  ⟨lists_1, trivial, launch0.admits_env _ _ _, launch0.least_env, fairChoices_fair.cas, fairChoices_fair.clock, w_frames, w_args, w_heap, w_applies, trivial, trivial, w_case⟩
end start1
theorem witness_1 : WitnessClaimed_1 := ⟨start1.p0, start1.e0, start1.about1, start1.theMethod, start1.args0, start1.below0, start1.atStart⟩
end Jvm.Pilot.@@N@@

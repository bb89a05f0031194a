import JvmDerived
import JvmDerived.Pilot.@@N@@Statement
import JvmDerived.Pilot.@@N@@Code
set_option linter.unusedVariables false
set_option linter.unusedSimpArgs false
@@BLOCK:NumsL.lean.txt@@
namespace Jvm.RoadKit
open Sem ClassFile Op Lib Jvm.Stand Jvm.Free Jvm.LawKit
section New
variable {p : Program} {l : Launch} {e : Env} {R : Room} {s : State} {m : MethodId} {args : Array Value} {below : List Frame} {meth : Method} {c : Code} {T : State} {locs : List Loc} {cells slots : Nat}
theorem retI (X : Stand p l e R s m args below meth c T locs cells slots) (hx : p.tables.exec = Jvm.exec) {pc : Nat} {Ls : Array Slot} {z : Int32} {rest : List Value} (hret : meth.sig.returnType = some .int) (hd : decode c.code pc = .ok (.ireturn, 1)) {fs : List Frame}
    (hl : ∀ (f : JFrame) (acts : List Action), f.method = m → f.locked = none → f.entered = [] → (doReturn e (T.setTop f) acts (some (.int z))).1 = T.setFrames fs) : Steps p.tables e below (T.setTop (mkF m pc Ls (.int z :: rest))) (T.setFrames fs) := by
  have hm' : T.vm.method? m = some meth := X.method'
  have hn : narrow .int (.int z) = .int z := rfl
  show Steps p.tables e below (T.setTop { method := m, pc := pc, locals := Ls, stack := _ :: rest, locked := none }) _
  jvm_step X.here [X.here.top, hx, hd, hm', hret, hn]
  first | (intro acts; rw [hl _ acts rfl rfl rfl]) | rw [hl _ _ rfl rfl rfl]
  exact Steps.refl _
end New
end Jvm.RoadKit
namespace Jvm.Pilot.@@N@@
open Jvm Jvm.ClassFile Sem Op Lib Jvm.Free Jvm.Stand Jvm.LawKit Jvm.RoadKit Bundle Jvm.Pilot.@@N@@.Jvm.D
theorem d2_0 : decode prog_15_method_1_code 0 = .ok (.getstatic 13, 3) := by decide +kernel
theorem d2_3 : decode prog_15_method_1_code 3 = .ok (.invokevirtual 17, 3) := by decide +kernel
theorem d2_6 : decode prog_15_method_1_code 6 = .ok (.checkcast 18, 3) := by decide +kernel
theorem d2_9 : decode prog_15_method_1_code 9 = .ok (.areturn, 1) := by decide +kernel
theorem pn_2 : plainName "com/example/leafweight/leafweight/BlockType" = true := by first | (simp [plainName, overriddenIn]; done) | decide +kernel
theorem pd_0 : parseMethodDescriptor "(I)Lcom/example/leafweight/leafweight/BlockType;" = some ⟨[.int], some (.object "com/example/leafweight/leafweight/BlockType")⟩ := by decide +kernel
theorem pd_1 : parseMethodDescriptor "()[Lcom/example/leafweight/leafweight/BlockType;" = some ⟨[], some (.array (.object "com/example/leafweight/leafweight/BlockType"))⟩ := by decide +kernel
theorem pd_2 : parseMethodDescriptor "()Ljava/lang/Object;" = some ⟨[], some (.object "java/lang/Object")⟩ := by decide +kernel
theorem ef_2 (m : MethodId)  : entryFrame m #[] 0 = mkF m 0 #[] [] := by first | (simp [entryFrame, mkF, argsToLocals, Value.category]; done) | rfl
def Q2 (Z : State) (wH wS wR : Addr) (kv : ClassId) (h0 : Heap) (n0 : Nat) (v : Option Value) (h : Heap) (L : List Loc) : Prop := ∃ (ca : Addr), v = some (.ref ca) ∧ Fr n0 L ∧ Keep h0 h [] ∧ h0.size ≤ ca ∧ Arv Z h ca kv (.object "com/example/leafweight/leafweight/BlockType") (3 : Int32) [(.ref wH), (.ref wS), (.ref wR)] .null
set_option maxRecDepth 65536 in
set_option maxHeartbeats 40000000 in
theorem rm2 (l : Launch) (Z : State) (aZ : Array Value) (hw : ∀ d ∈ tables_1, d.before aZ Z = true) (ws : List Jvm.Cond)  (wV wH wS wR : Addr) (kv : ClassId) (h0 : Heap) (n0 : Nat) (Z0 : n0 ≤ h0.size) (S_V : Sta Z h0 "com/example/leafweight/leafweight/BlockType" "$VALUES" "[Lcom/example/leafweight/leafweight/BlockType;" (.ref wV)) (V_V : Arv Z h0 wV kv (.object "com/example/leafweight/leafweight/BlockType") (3 : Int32) [(.ref wH), (.ref wS), (.ref wR)] .null) (E_V : Exa Z h0 wV "[Lcom/example/leafweight/leafweight/BlockType;") :
    MetFree l (⟨"com/example/leafweight/leafweight/BlockType", "values", "()[Lcom/example/leafweight/leafweight/BlockType;"⟩ : MethodName) (head1 (Jvm.Cond.code (⟨"com/example/leafweight/leafweight/BlockType", "values", "()[Lcom/example/leafweight/leafweight/BlockType;"⟩ : MethodName) prog_15_method_1_code 0 (some (.array (.object "com/example/leafweight/leafweight/BlockType"))) :: ws) ({ frames := 1, cells := 1, slots := 3, locals := 14 } : Room)) (fun a U => a = #[] ∧ Z.Warmed39 U.vm ∧ U.heap = h0) (fun _ _ _ _ _ => True) (fun _ U oc U' => ∃ v L, oc = .returned v ∧ Q2 Z wH wS wR kv h0 n0 v U'.heap L ∧ FrameEnd U oc U' L ({ frames := 1, cells := 1, slots := 3, locals := 14 } : Room).cells ({ frames := 1, cells := 1, slots := 3, locals := 14 } : Room).slots) := by
  refine MetFree.of_bodySF (plainFor_of_name pn_2) hisR ?_
  intro p e s m args below meth c s₁ Bd hml0 hP hK
  obtain ⟨rfl, hZ, hh⟩ := hP
  have hx := Bd.exec
  have hby := Bd.bytes
  have hml : c.maxLocals = 0 := hml0
  have hown : s.vm.findClass "com/example/leafweight/leafweight/BlockType" = some m.cls := findClass_of_methodNamed Bd.named
  have hnm := (name_of_methodNamed Bd.named Bd.method).1
  have X0 : Stand p l e ({ frames := 1, cells := 1, slots := 3, locals := 14 } : Room) s m #[] below meth c s₁ [] 0 0 := Stand.of_body Bd
  have e0 : s₁.heap = h0 := by rw [← hh, Bd.state]; rfl
  have N0 := Fr.nil n0
  have pre0 : ∀ t, Steps p.tables e below (s₁.setTop (mkF m 0 #[] [])) t → Steps p.tables e below (s₁.setTop (entryFrame m #[] 0)) t := fun t kt => castTop (ef_2 m ) kt
  obtain ⟨T1, X1, e1, st1⟩ := getS2 X0 hx hZ hown (host := "") (Or.inl (hw _ (List.mem_of_getElem? (i := 7) rfl))) Via.refl e0 S_V (g := (mkF m 0 #[] [])) rfl (hb hby d2_0)
  have pre1 : ∀ t, Steps p.tables e below (T1.setTop (mkF m 3 #[] [(.ref wV)])) t → Steps p.tables e below (s₁.setTop (entryFrame m #[] 0)) t := fun t kt => pre0 _ (st1 t kt)
  obtain ⟨T2, h2, X2, e2, E2, A2, Ex2, st2⟩ := cloneH X1 hx hZ hown (hw _ (List.mem_of_getElem? (i := 9) rfl)) (hw _ (List.mem_of_getElem? (i := 10) rfl)) (hw _ (List.mem_of_getElem? (i := 14) rfl)) (hw _ (List.mem_of_getElem? (i := 12) rfl)) (hw _ (List.mem_of_getElem? (i := 13) rfl)) (hw _ (List.mem_of_getElem? (i := 15) rfl)) e1 V_V.arh E_V (g := (mkF m 3 #[] [(.ref wV)])) rfl (by rw [hml]; rfl) rfl (hb hby d2_3) (by decide) (W := 0) (by show 2 * 0 + _ ≤ _; exact Nat.le_of_eq rfl) (by decide) (cap := 3) (by decide) (by decide) (by decide)
  obtain ⟨ca, gca⟩ : ∃ z, z = h0.size := ⟨_, rfl⟩
  rw [← gca] at A2 Ex2 st2
  have pre2 : ∀ t, Steps p.tables e below (T2.setTop (mkF m 6 #[] [(.ref ca)])) t → Steps p.tables e below (s₁.setTop (entryFrame m #[] 0)) t := fun t kt => pre1 _ (st2 t kt)
  obtain ⟨T3, X3, e3, st3⟩ := castY X2 hx hZ hown (hw _ (List.mem_of_getElem? (i := 20) rfl)) e2 (Ins.self Ex2) (g := (mkF m 6 #[] [(.ref ca)])) rfl rfl (hb hby d2_6)
  have pre3 : ∀ t, Steps p.tables e below (T3.setTop (mkF m 9 #[] [(.ref ca)])) t → Steps p.tables e below (s₁.setTop (entryFrame m #[] 0)) t := fun t kt => pre2 _ (st3 t kt)
  have Kf : Keep h0 h2 [] := (Keep.refl h0 []).ext E2
  obtain ⟨fs, hr, hrun, hended, hW, hsame⟩ := X3.leave (v := some (.ref ca)) (fun h => by rw [Bd.returns] at h; cases h)
  refine ⟨_, _, pre3 _ ?_, hrun, hended, _, _, rfl, ?_, ⟨_, rfl⟩, hW, hsame.mono (by decide) (by decide)⟩
  · show Steps p.tables e below (T3.setTop (mkF m 9 #[] [(.ref ca)])) _
    jvm_step X3.here [X3.here.top, hx, (hb hby d2_9), X3.method', Bd.returns, Value.isRef, FieldType.isReference]
    first | (intro acts; rw [hr _ acts rfl rfl rfl]) | rw [hr _ _ rfl rfl rfl]
    exact Steps.refl _
  · show Q2 Z wH wS wR kv h0 n0 _ T3.heap _
    rw [e3]
    exact ⟨ca, rfl, N0, Kf, Nat.le_of_eq gca.symm, A2⟩
theorem d1_0 : decode prog_15_method_7_code 0 = .ok (.invokestatic 40, 3) := by decide +kernel
theorem d1_3 : decode prog_15_method_7_code 3 = .ok (.astore_n 1, 1) := by decide +kernel
theorem d1_4 : decode prog_15_method_7_code 4 = .ok (.aload_n 1, 1) := by decide +kernel
theorem d1_5 : decode prog_15_method_7_code 5 = .ok (.arraylength, 1) := by decide +kernel
theorem d1_6 : decode prog_15_method_7_code 6 = .ok (.istore_n 2, 1) := by decide +kernel
theorem d1_7 : decode prog_15_method_7_code 7 = .ok (.iconst 0, 1) := by decide +kernel
theorem d1_8 : decode prog_15_method_7_code 8 = .ok (.istore_n 3, 1) := by decide +kernel
theorem d1_9 : decode prog_15_method_7_code 9 = .ok (.iload_n 3, 1) := by decide +kernel
theorem d1_10 : decode prog_15_method_7_code 10 = .ok (.iload_n 2, 1) := by decide +kernel
theorem d1_11 : decode prog_15_method_7_code 11 = .ok (.if_icmp .ge 26, 3) := by decide +kernel
theorem d1_14 : decode prog_15_method_7_code 14 = .ok (.aload_n 1, 1) := by decide +kernel
theorem d1_15 : decode prog_15_method_7_code 15 = .ok (.iload_n 3, 1) := by decide +kernel
theorem d1_16 : decode prog_15_method_7_code 16 = .ok (.aaload, 1) := by decide +kernel
theorem d1_17 : decode prog_15_method_7_code 17 = .ok (.astore 4, 2) := by decide +kernel
theorem d1_19 : decode prog_15_method_7_code 19 = .ok (.aload 4, 2) := by decide +kernel
theorem d1_21 : decode prog_15_method_7_code 21 = .ok (.getfield 32, 3) := by decide +kernel
theorem d1_24 : decode prog_15_method_7_code 24 = .ok (.iload_n 0, 1) := by decide +kernel
theorem d1_25 : decode prog_15_method_7_code 25 = .ok (.if_icmp .ne 6, 3) := by decide +kernel
theorem d1_28 : decode prog_15_method_7_code 28 = .ok (.aload 4, 2) := by decide +kernel
theorem d1_30 : decode prog_15_method_7_code 30 = .ok (.areturn, 1) := by decide +kernel
theorem d1_31 : decode prog_15_method_7_code 31 = .ok (.iinc 3 1, 3) := by decide +kernel
theorem d1_34 : decode prog_15_method_7_code 34 = .ok (.goto (-25), 3) := by decide +kernel
theorem d1_37 : decode prog_15_method_7_code 37 = .ok (.aconst_null, 1) := by decide +kernel
theorem d1_38 : decode prog_15_method_7_code 38 = .ok (.areturn, 1) := by decide +kernel
theorem ef_1 (m : MethodId) (x0 : Int32) : entryFrame m #[(.int x0)] 5 = mkF m 0 #[.val (.int x0), .unset, .unset, .unset, .unset] [] := by first | (simp [entryFrame, mkF, argsToLocals, Value.category]; done) | rfl
def Q1_1 (wo : Value) (h0 : Heap) (n0 : Nat) (v : Option Value) (h : Heap) (L : List Loc) : Prop := v = some wo ∧ Fr n0 L ∧ Keep h0 h []
set_option maxRecDepth 65536 in
set_option maxHeartbeats 40000000 in
theorem rm1_1 (l : Launch) (Z : State) (aZ : Array Value) (hw : ∀ d ∈ tables_1, d.before aZ Z = true) (ws : List Jvm.Cond)  (wV wH wS wR : Addr) (kv : ClassId) (h0 : Heap) (n0 : Nat) (Z0 : n0 ≤ h0.size) (S_V : Sta Z h0 "com/example/leafweight/leafweight/BlockType" "$VALUES" "[Lcom/example/leafweight/leafweight/BlockType;" (.ref wV)) (V_V : Arv Z h0 wV kv (.object "com/example/leafweight/leafweight/BlockType") (3 : Int32) [(.ref wH), (.ref wS), (.ref wR)] .null) (E_V : Exa Z h0 wV "[Lcom/example/leafweight/leafweight/BlockType;") (F_1 : Fld Z h0 wH "com/example/leafweight/leafweight/BlockType" "code" "I" (.int (1 : Int32))) (F_2 : Fld Z h0 wS "com/example/leafweight/leafweight/BlockType" "code" "I" (.int (2 : Int32))) (F_3 : Fld Z h0 wR "com/example/leafweight/leafweight/BlockType" "code" "I" (.int (3 : Int32)))  :
    MetFree l (⟨"com/example/leafweight/leafweight/BlockType", "of", "(I)Lcom/example/leafweight/leafweight/BlockType;"⟩ : MethodName) (head1 (Jvm.Cond.code (⟨"com/example/leafweight/leafweight/BlockType", "of", "(I)Lcom/example/leafweight/leafweight/BlockType;"⟩ : MethodName) prog_15_method_7_code 5 (some (.object "com/example/leafweight/leafweight/BlockType")) :: ws) ({ frames := 2, cells := 1, slots := 3, locals := 25 } : Room)) (fun a U => a = #[(.int (1 : Int32))] ∧ Z.Warmed39 U.vm ∧ U.heap = h0) (fun _ _ _ _ _ => True) (fun _ U oc U' => ∃ v L, oc = .returned v ∧ Q1_1 (.ref wH) h0 n0 v U'.heap L ∧ FrameEnd U oc U' L ({ frames := 2, cells := 1, slots := 3, locals := 25 } : Room).cells ({ frames := 2, cells := 1, slots := 3, locals := 25 } : Room).slots) := by
  refine MetFree.of_bodySF (plainFor_of_name pn_2) hisR ?_
  intro p e s m args below meth c s₁ Bd hml0 hP hK
  obtain ⟨rfl, hZ, hh⟩ := hP
  have hx := Bd.exec
  have hby := Bd.bytes
  have hml : c.maxLocals = 5 := hml0
  have hown : s.vm.findClass "com/example/leafweight/leafweight/BlockType" = some m.cls := findClass_of_methodNamed Bd.named
  have hnm := (name_of_methodNamed Bd.named Bd.method).1
  have X0 : Stand p l e ({ frames := 2, cells := 1, slots := 3, locals := 25 } : Room) s m #[(.int (1 : Int32))] below meth c s₁ [] 0 0 := Stand.of_body Bd
  have e0 : s₁.heap = h0 := by rw [← hh, Bd.state]; rfl
  have N0 := Fr.nil n0
  have pre0 : ∀ t, Steps p.tables e below (s₁.setTop (mkF m 0 #[.val (.int (1 : Int32)), .unset, .unset, .unset, .unset] [])) t → Steps p.tables e below (s₁.setTop (entryFrame m #[(.int (1 : Int32))] 5)) t := fun t kt => castTop (ef_1 m (1 : Int32)) kt
  obtain ⟨v5, _, ⟨T5, L5, k5, n5⟩, -, X5, ⟨Lc5, hQ5, l5, y5, z5⟩, st5⟩ := Jvm.LawKit.callS X0 hx (y := (⟨"com/example/leafweight/leafweight/BlockType", "values", "()[Lcom/example/leafweight/leafweight/BlockType;"⟩ : MethodName)) hown (mvT hZ (hw _ (List.mem_of_getElem? (i := 4) rfl))) (mvT hZ (hw _ (List.mem_of_getElem? (i := 5) rfl))) (mvT hZ (hw _ (List.mem_of_getElem? (i := 2) rfl))) (mvT hZ (hw _ (List.mem_of_getElem? (i := 6) rfl))) (by decide) (backOf (W := 0) (rm2 l Z aZ hw []  wV wH wS wR kv h0 n0 Z0 S_V V_V E_V) hZ (hw _ (List.mem_of_getElem? (i := 6) rfl)) (hw _ (List.mem_of_getElem? (i := 2) rfl)) (by decide) (by decide)) (g := (mkF m 0 #[.val (.int (1 : Int32)), .unset, .unset, .unset, .unset] [])) rfl (by rw [hml]; rfl) (argsL := []) (rest := []) (lenOf pd_1 rfl) rfl (by show 2 * 0 + _ ≤ _; exact Nat.le_of_eq rfl) (hb hby d1_0) (fun _ _ => ⟨rfl, e0, (by decide : 0 + 1 ≤ _), (by decide : 0 + 3 ≤ _)⟩)
  dsimp only [Pt.U, Pt.locs, Pt.cells, Pt.slots] at X5 l5 y5 z5 st5 hQ5
  rw [l5, y5, z5] at X5
  clear l5 y5 z5
  obtain ⟨ca, vq5, N5q, Kc5, sz_ca, Vc5⟩ := hQ5
  rw [vq5] at st5
  have N5 := Fr.app N0 N5q
  have pre5 : ∀ t, Steps p.tables e below (T5.setTop (mkF m 3 #[.val (.int (1 : Int32)), .unset, .unset, .unset, .unset] [(.ref ca)])) t → Steps p.tables e below (s₁.setTop (entryFrame m #[(.int (1 : Int32))] 5)) t := fun t kt => pre0 _ (st5 t kt)
  have Zs5 : n0 ≤ T5.heap.size := Nat.le_trans Z0 Kc5.1
  have F5_0 := F_1.keep Kc5 (by simp)
  have F5_1 := F_2.keep Kc5 (by simp)
  have F5_2 := F_3.keep Kc5 (by simp)
  have K0 := Keep.refl h0 []
  have K5 := K0.trans Kc5 (by simp)
  have pre6 : ∀ t, Steps p.tables e below (T5.setTop (mkF m 5 #[.val (.int (1 : Int32)), .val (.ref ca), .unset, .unset, .unset] [(.ref ca)])) t → Steps p.tables e below (s₁.setTop (entryFrame m #[(.int (1 : Int32))] 5)) t := fun t kt => by
    refine pre5 _ ?_
    show Steps p.tables e below (T5.setTop (mkF m 3 #[.val (.int (1 : Int32)), .unset, .unset, .unset, .unset] [(.ref ca)])) _
    refine XS.astoreN X5.here hx rfl (hb hby d1_3) rfl rfl (l' := #[.val (.int (1 : Int32)), .val (.ref ca), .unset, .unset, .unset]) rfl ?_
    show Steps p.tables e below (T5.setTop (mkF m 4 #[.val (.int (1 : Int32)), .val (.ref ca), .unset, .unset, .unset] [])) _
    refine XS.aloadN X5.here hx rfl (hb hby d1_4) rfl rfl ?_
    show Steps p.tables e below (T5.setTop (mkF m 5 #[.val (.int (1 : Int32)), .val (.ref ca), .unset, .unset, .unset] [(.ref ca)])) _
    exact kt
  have Vo_ca_7 := Vc5
  obtain ⟨cl_ca_7, Ar_ca_7, q_ca_7, S_ca_7, M_ca_7, H_ca_7, G_ca_7⟩ := Vo_ca_7
  have pre7 : ∀ t, Steps p.tables e below (T5.setTop (mkF m 6 #[.val (.int (1 : Int32)), .val (.ref ca), .unset, .unset, .unset] [(.int (3 : Int32))])) t → Steps p.tables e below (s₁.setTop (entryFrame m #[(.int (1 : Int32))] 5)) t := fun t kt => by
    refine pre6 _ ?_
    refine X5.arraylength hx Ar_ca_7.1 (State.isArrayOf_alike hZ.alike Ar_ca_7.2.1) (g := (mkF m 5 #[.val (.int (1 : Int32)), .val (.ref ca), .unset, .unset, .unset] [(.ref ca)])) rfl rfl (hb hby d1_5) _ ?_
    rw [len_of S_ca_7 M_ca_7]
    exact kt
  have pre8 : ∀ t, Steps p.tables e below (T5.setTop (mkF m 11 #[.val (.int (1 : Int32)), .val (.ref ca), .val (.int (3 : Int32)), .val (.int (0 : Int32)), .unset] [(.int (3 : Int32)), (.int (0 : Int32))])) t → Steps p.tables e below (s₁.setTop (entryFrame m #[(.int (1 : Int32))] 5)) t := fun t kt => by
    refine pre7 _ ?_
    show Steps p.tables e below (T5.setTop (mkF m 6 #[.val (.int (1 : Int32)), .val (.ref ca), .unset, .unset, .unset] [(.int (3 : Int32))])) _
    refine XS.istoreN X5.here hx rfl (hb hby d1_6) rfl (l' := #[.val (.int (1 : Int32)), .val (.ref ca), .val (.int (3 : Int32)), .unset, .unset]) rfl ?_
    show Steps p.tables e below (T5.setTop (mkF m 7 #[.val (.int (1 : Int32)), .val (.ref ca), .val (.int (3 : Int32)), .unset, .unset] [])) _
    refine XS.iconst X5.here hx rfl (hb hby d1_7) ?_
    show Steps p.tables e below (T5.setTop (mkF m 8 #[.val (.int (1 : Int32)), .val (.ref ca), .val (.int (3 : Int32)), .unset, .unset] [(.int (0 : Int32))])) _
    refine XS.istoreN X5.here hx rfl (hb hby d1_8) rfl (l' := #[.val (.int (1 : Int32)), .val (.ref ca), .val (.int (3 : Int32)), .val (.int (0 : Int32)), .unset]) rfl ?_
    show Steps p.tables e below (T5.setTop (mkF m 9 #[.val (.int (1 : Int32)), .val (.ref ca), .val (.int (3 : Int32)), .val (.int (0 : Int32)), .unset] [])) _
    refine XS.iloadN X5.here hx rfl (hb hby d1_9) rfl ?_
    show Steps p.tables e below (T5.setTop (mkF m 10 #[.val (.int (1 : Int32)), .val (.ref ca), .val (.int (3 : Int32)), .val (.int (0 : Int32)), .unset] [(.int (0 : Int32))])) _
    refine XS.iloadN X5.here hx rfl (hb hby d1_10) rfl ?_
    show Steps p.tables e below (T5.setTop (mkF m 11 #[.val (.int (1 : Int32)), .val (.ref ca), .val (.int (3 : Int32)), .val (.int (0 : Int32)), .unset] [(.int (3 : Int32)), (.int (0 : Int32))])) _
    exact kt
  have pre9 : ∀ t, Steps p.tables e below (T5.setTop (mkF m 14 #[.val (.int (1 : Int32)), .val (.ref ca), .val (.int (3 : Int32)), .val (.int (0 : Int32)), .unset] [])) t → Steps p.tables e below (s₁.setTop (entryFrame m #[(.int (1 : Int32))] 5)) t := fun t kt => by
    refine pre8 _ ?_
    show Steps p.tables e below (T5.setTop (mkF m 11 #[.val (.int (1 : Int32)), .val (.ref ca), .val (.int (3 : Int32)), .val (.int (0 : Int32)), .unset] [(.int (3 : Int32)), (.int (0 : Int32))])) _
    refine XS.icmpNo X5.here hx rfl (hb hby d1_11) rfl (tlt (by decide : (0 : Int32) < (3 : Int32))).2.1 ?_
    show Steps p.tables e below (T5.setTop (mkF m 14 #[.val (.int (1 : Int32)), .val (.ref ca), .val (.int (3 : Int32)), .val (.int (0 : Int32)), .unset] [])) _
    exact kt
  have pre10 : ∀ t, Steps p.tables e below (T5.setTop (mkF m 16 #[.val (.int (1 : Int32)), .val (.ref ca), .val (.int (3 : Int32)), .val (.int (0 : Int32)), .unset] [(.int (0 : Int32)), (.ref ca)])) t → Steps p.tables e below (s₁.setTop (entryFrame m #[(.int (1 : Int32))] 5)) t := fun t kt => by
    refine pre9 _ ?_
    show Steps p.tables e below (T5.setTop (mkF m 14 #[.val (.int (1 : Int32)), .val (.ref ca), .val (.int (3 : Int32)), .val (.int (0 : Int32)), .unset] [])) _
    refine XS.aloadN X5.here hx rfl (hb hby d1_14) rfl rfl ?_
    show Steps p.tables e below (T5.setTop (mkF m 15 #[.val (.int (1 : Int32)), .val (.ref ca), .val (.int (3 : Int32)), .val (.int (0 : Int32)), .unset] [(.ref ca)])) _
    refine XS.iloadN X5.here hx rfl (hb hby d1_15) rfl ?_
    show Steps p.tables e below (T5.setTop (mkF m 16 #[.val (.int (1 : Int32)), .val (.ref ca), .val (.int (3 : Int32)), .val (.int (0 : Int32)), .unset] [(.int (0 : Int32)), (.ref ca)])) _
    exact kt
  have Vo_ca_11 := Vc5
  obtain ⟨cl_ca_11, Ar_ca_11, q_ca_11, S_ca_11, M_ca_11, H_ca_11, G_ca_11⟩ := Vo_ca_11
  have hin11 : ¬ ((0 : Int32) < 0 ∨ cl_ca_11.slots.size ≤ ((0 : Int32)).toNatClampNeg) := inb_of S_ca_11 ⟨by decide, by decide⟩
  have hat11 : cl_ca_11.slots[((0 : Int32)).toNatClampNeg]? = some (.ref wH) := H_ca_11.at hin11 rfl
  have pre12 : ∀ t, Steps p.tables e below (T5.setTop (mkF m 17 #[.val (.int (1 : Int32)), .val (.ref ca), .val (.int (3 : Int32)), .val (.int (0 : Int32)), .unset] [(.ref wH)])) t → Steps p.tables e below (s₁.setTop (entryFrame m #[(.int (1 : Int32))] 5)) t := fun t kt => pre10 _ (X5.aaload hx (j := (0 : Int32)) (v := (.ref wH)) Ar_ca_11.1 (State.isArrayOf_alike hZ.alike Ar_ca_11.2.1) rfl Ar_ca_11.2.2 hin11 hat11 (g := (mkF m 16 #[.val (.int (1 : Int32)), .val (.ref ca), .val (.int (3 : Int32)), .val (.int (0 : Int32)), .unset] [(.int (0 : Int32)), (.ref ca)])) rfl rfl (hb hby d1_16) t kt)
  have pre13 : ∀ t, Steps p.tables e below (T5.setTop (mkF m 21 #[.val (.int (1 : Int32)), .val (.ref ca), .val (.int (3 : Int32)), .val (.int (0 : Int32)), .val (.ref wH)] [(.ref wH)])) t → Steps p.tables e below (s₁.setTop (entryFrame m #[(.int (1 : Int32))] 5)) t := fun t kt => by
    refine pre12 _ ?_
    show Steps p.tables e below (T5.setTop (mkF m 17 #[.val (.int (1 : Int32)), .val (.ref ca), .val (.int (3 : Int32)), .val (.int (0 : Int32)), .unset] [(.ref wH)])) _
    refine XS.astore X5.here hx rfl (hb hby d1_17) rfl rfl (l' := #[.val (.int (1 : Int32)), .val (.ref ca), .val (.int (3 : Int32)), .val (.int (0 : Int32)), .val (.ref wH)]) rfl ?_
    show Steps p.tables e below (T5.setTop (mkF m 19 #[.val (.int (1 : Int32)), .val (.ref ca), .val (.int (3 : Int32)), .val (.int (0 : Int32)), .val (.ref wH)] [])) _
    refine XS.aload X5.here hx rfl (hb hby d1_19) rfl rfl ?_
    show Steps p.tables e below (T5.setTop (mkF m 21 #[.val (.int (1 : Int32)), .val (.ref ca), .val (.int (3 : Int32)), .val (.int (0 : Int32)), .val (.ref wH)] [(.ref wH)])) _
    exact kt
  obtain ⟨T14, X14, e14, st14⟩ := getF X5 hx hZ hown (host := "") (Or.inl (hw _ (List.mem_of_getElem? (i := 22) rfl))) Via.refl rfl F5_0 (g := (mkF m 21 #[.val (.int (1 : Int32)), .val (.ref ca), .val (.int (3 : Int32)), .val (.int (0 : Int32)), .val (.ref wH)] [(.ref wH)])) rfl rfl (hb hby d1_21)
  have pre14 : ∀ t, Steps p.tables e below (T14.setTop (mkF m 24 #[.val (.int (1 : Int32)), .val (.ref ca), .val (.int (3 : Int32)), .val (.int (0 : Int32)), .val (.ref wH)] [(.int (1 : Int32))])) t → Steps p.tables e below (s₁.setTop (entryFrame m #[(.int (1 : Int32))] 5)) t := fun t kt => pre13 _ (st14 t kt)
  have pre15 : ∀ t, Steps p.tables e below (T14.setTop (mkF m 25 #[.val (.int (1 : Int32)), .val (.ref ca), .val (.int (3 : Int32)), .val (.int (0 : Int32)), .val (.ref wH)] [(.int (1 : Int32)), (.int (1 : Int32))])) t → Steps p.tables e below (s₁.setTop (entryFrame m #[(.int (1 : Int32))] 5)) t := fun t kt => by
    refine pre14 _ ?_
    show Steps p.tables e below (T14.setTop (mkF m 24 #[.val (.int (1 : Int32)), .val (.ref ca), .val (.int (3 : Int32)), .val (.int (0 : Int32)), .val (.ref wH)] [(.int (1 : Int32))])) _
    refine XS.iloadN X14.here hx rfl (hb hby d1_24) rfl ?_
    show Steps p.tables e below (T14.setTop (mkF m 25 #[.val (.int (1 : Int32)), .val (.ref ca), .val (.int (3 : Int32)), .val (.int (0 : Int32)), .val (.ref wH)] [(.int (1 : Int32)), (.int (1 : Int32))])) _
    exact kt
  have pre16 : ∀ t, Steps p.tables e below (T14.setTop (mkF m 28 #[.val (.int (1 : Int32)), .val (.ref ca), .val (.int (3 : Int32)), .val (.int (0 : Int32)), .val (.ref wH)] [])) t → Steps p.tables e below (s₁.setTop (entryFrame m #[(.int (1 : Int32))] 5)) t := fun t kt => by
    refine pre15 _ ?_
    show Steps p.tables e below (T14.setTop (mkF m 25 #[.val (.int (1 : Int32)), .val (.ref ca), .val (.int (3 : Int32)), .val (.int (0 : Int32)), .val (.ref wH)] [(.int (1 : Int32)), (.int (1 : Int32))])) _
    refine XS.icmpNo X14.here hx rfl (hb hby d1_25) rfl (teq (by decide : (1 : Int32) = (1 : Int32))).2 ?_
    show Steps p.tables e below (T14.setTop (mkF m 28 #[.val (.int (1 : Int32)), .val (.ref ca), .val (.int (3 : Int32)), .val (.int (0 : Int32)), .val (.ref wH)] [])) _
    exact kt
  have pre17 : ∀ t, Steps p.tables e below (T14.setTop (mkF m 30 #[.val (.int (1 : Int32)), .val (.ref ca), .val (.int (3 : Int32)), .val (.int (0 : Int32)), .val (.ref wH)] [(.ref wH)])) t → Steps p.tables e below (s₁.setTop (entryFrame m #[(.int (1 : Int32))] 5)) t := fun t kt => by
    refine pre16 _ ?_
    show Steps p.tables e below (T14.setTop (mkF m 28 #[.val (.int (1 : Int32)), .val (.ref ca), .val (.int (3 : Int32)), .val (.int (0 : Int32)), .val (.ref wH)] [])) _
    refine XS.aload X14.here hx rfl (hb hby d1_28) rfl rfl ?_
    show Steps p.tables e below (T14.setTop (mkF m 30 #[.val (.int (1 : Int32)), .val (.ref ca), .val (.int (3 : Int32)), .val (.int (0 : Int32)), .val (.ref wH)] [(.ref wH)])) _
    exact kt
  obtain ⟨fs, hr, hrun, hended, hW, hsame⟩ := X14.leave (v := some (.ref wH)) (fun h => by rw [Bd.returns] at h; cases h)
  refine ⟨_, _, pre17 _ ?_, hrun, hended, _, _, rfl, ?_, ⟨_, rfl⟩, hW, hsame.mono (by decide) (by decide)⟩
  · show Steps p.tables e below (T14.setTop (mkF m 30 #[.val (.int (1 : Int32)), .val (.ref ca), .val (.int (3 : Int32)), .val (.int (0 : Int32)), .val (.ref wH)] [(.ref wH)])) _
    jvm_step X14.here [X14.here.top, hx, (hb hby d1_30), X14.method', Bd.returns, Value.isRef, FieldType.isReference]
    first | (intro acts; rw [hr _ acts rfl rfl rfl]) | rw [hr _ _ rfl rfl rfl]
    exact Steps.refl _
  · show Q1_1 (.ref wH) h0 n0 _ T14.heap _
    rw [e14]
    exact ⟨rfl, N5, K5⟩
def Q1_2 (wo : Value) (h0 : Heap) (n0 : Nat) (v : Option Value) (h : Heap) (L : List Loc) : Prop := v = some wo ∧ Fr n0 L ∧ Keep h0 h []
set_option maxRecDepth 65536 in
set_option maxHeartbeats 40000000 in
theorem rm1_2 (l : Launch) (Z : State) (aZ : Array Value) (hw : ∀ d ∈ tables_1, d.before aZ Z = true) (ws : List Jvm.Cond)  (wV wH wS wR : Addr) (kv : ClassId) (h0 : Heap) (n0 : Nat) (Z0 : n0 ≤ h0.size) (S_V : Sta Z h0 "com/example/leafweight/leafweight/BlockType" "$VALUES" "[Lcom/example/leafweight/leafweight/BlockType;" (.ref wV)) (V_V : Arv Z h0 wV kv (.object "com/example/leafweight/leafweight/BlockType") (3 : Int32) [(.ref wH), (.ref wS), (.ref wR)] .null) (E_V : Exa Z h0 wV "[Lcom/example/leafweight/leafweight/BlockType;") (F_1 : Fld Z h0 wH "com/example/leafweight/leafweight/BlockType" "code" "I" (.int (1 : Int32))) (F_2 : Fld Z h0 wS "com/example/leafweight/leafweight/BlockType" "code" "I" (.int (2 : Int32))) (F_3 : Fld Z h0 wR "com/example/leafweight/leafweight/BlockType" "code" "I" (.int (3 : Int32)))  :
    MetFree l (⟨"com/example/leafweight/leafweight/BlockType", "of", "(I)Lcom/example/leafweight/leafweight/BlockType;"⟩ : MethodName) (head1 (Jvm.Cond.code (⟨"com/example/leafweight/leafweight/BlockType", "of", "(I)Lcom/example/leafweight/leafweight/BlockType;"⟩ : MethodName) prog_15_method_7_code 5 (some (.object "com/example/leafweight/leafweight/BlockType")) :: ws) ({ frames := 2, cells := 1, slots := 3, locals := 25 } : Room)) (fun a U => a = #[(.int (2 : Int32))] ∧ Z.Warmed39 U.vm ∧ U.heap = h0) (fun _ _ _ _ _ => True) (fun _ U oc U' => ∃ v L, oc = .returned v ∧ Q1_2 (.ref wS) h0 n0 v U'.heap L ∧ FrameEnd U oc U' L ({ frames := 2, cells := 1, slots := 3, locals := 25 } : Room).cells ({ frames := 2, cells := 1, slots := 3, locals := 25 } : Room).slots) := by
  refine MetFree.of_bodySF (plainFor_of_name pn_2) hisR ?_
  intro p e s m args below meth c s₁ Bd hml0 hP hK
  obtain ⟨rfl, hZ, hh⟩ := hP
  have hx := Bd.exec
  have hby := Bd.bytes
  have hml : c.maxLocals = 5 := hml0
  have hown : s.vm.findClass "com/example/leafweight/leafweight/BlockType" = some m.cls := findClass_of_methodNamed Bd.named
  have hnm := (name_of_methodNamed Bd.named Bd.method).1
  have X0 : Stand p l e ({ frames := 2, cells := 1, slots := 3, locals := 25 } : Room) s m #[(.int (2 : Int32))] below meth c s₁ [] 0 0 := Stand.of_body Bd
  have e0 : s₁.heap = h0 := by rw [← hh, Bd.state]; rfl
  have N0 := Fr.nil n0
  have pre0 : ∀ t, Steps p.tables e below (s₁.setTop (mkF m 0 #[.val (.int (2 : Int32)), .unset, .unset, .unset, .unset] [])) t → Steps p.tables e below (s₁.setTop (entryFrame m #[(.int (2 : Int32))] 5)) t := fun t kt => castTop (ef_1 m (2 : Int32)) kt
  obtain ⟨v19, _, ⟨T19, L19, k19, n19⟩, -, X19, ⟨Lc19, hQ19, l19, y19, z19⟩, st19⟩ := Jvm.LawKit.callS X0 hx (y := (⟨"com/example/leafweight/leafweight/BlockType", "values", "()[Lcom/example/leafweight/leafweight/BlockType;"⟩ : MethodName)) hown (mvT hZ (hw _ (List.mem_of_getElem? (i := 4) rfl))) (mvT hZ (hw _ (List.mem_of_getElem? (i := 5) rfl))) (mvT hZ (hw _ (List.mem_of_getElem? (i := 2) rfl))) (mvT hZ (hw _ (List.mem_of_getElem? (i := 6) rfl))) (by decide) (backOf (W := 0) (rm2 l Z aZ hw []  wV wH wS wR kv h0 n0 Z0 S_V V_V E_V) hZ (hw _ (List.mem_of_getElem? (i := 6) rfl)) (hw _ (List.mem_of_getElem? (i := 2) rfl)) (by decide) (by decide)) (g := (mkF m 0 #[.val (.int (2 : Int32)), .unset, .unset, .unset, .unset] [])) rfl (by rw [hml]; rfl) (argsL := []) (rest := []) (lenOf pd_1 rfl) rfl (by show 2 * 0 + _ ≤ _; exact Nat.le_of_eq rfl) (hb hby d1_0) (fun _ _ => ⟨rfl, e0, (by decide : 0 + 1 ≤ _), (by decide : 0 + 3 ≤ _)⟩)
  dsimp only [Pt.U, Pt.locs, Pt.cells, Pt.slots] at X19 l19 y19 z19 st19 hQ19
  rw [l19, y19, z19] at X19
  clear l19 y19 z19
  obtain ⟨ca, vq19, N19q, Kc19, sz_ca, Vc19⟩ := hQ19
  rw [vq19] at st19
  have N19 := Fr.app N0 N19q
  have pre19 : ∀ t, Steps p.tables e below (T19.setTop (mkF m 3 #[.val (.int (2 : Int32)), .unset, .unset, .unset, .unset] [(.ref ca)])) t → Steps p.tables e below (s₁.setTop (entryFrame m #[(.int (2 : Int32))] 5)) t := fun t kt => pre0 _ (st19 t kt)
  have Zs19 : n0 ≤ T19.heap.size := Nat.le_trans Z0 Kc19.1
  have F19_0 := F_1.keep Kc19 (by simp)
  have F19_1 := F_2.keep Kc19 (by simp)
  have F19_2 := F_3.keep Kc19 (by simp)
  have K0 := Keep.refl h0 []
  have K19 := K0.trans Kc19 (by simp)
  have pre20 : ∀ t, Steps p.tables e below (T19.setTop (mkF m 5 #[.val (.int (2 : Int32)), .val (.ref ca), .unset, .unset, .unset] [(.ref ca)])) t → Steps p.tables e below (s₁.setTop (entryFrame m #[(.int (2 : Int32))] 5)) t := fun t kt => by
    refine pre19 _ ?_
    show Steps p.tables e below (T19.setTop (mkF m 3 #[.val (.int (2 : Int32)), .unset, .unset, .unset, .unset] [(.ref ca)])) _
    refine XS.astoreN X19.here hx rfl (hb hby d1_3) rfl rfl (l' := #[.val (.int (2 : Int32)), .val (.ref ca), .unset, .unset, .unset]) rfl ?_
    show Steps p.tables e below (T19.setTop (mkF m 4 #[.val (.int (2 : Int32)), .val (.ref ca), .unset, .unset, .unset] [])) _
    refine XS.aloadN X19.here hx rfl (hb hby d1_4) rfl rfl ?_
    show Steps p.tables e below (T19.setTop (mkF m 5 #[.val (.int (2 : Int32)), .val (.ref ca), .unset, .unset, .unset] [(.ref ca)])) _
    exact kt
  have Vo_ca_21 := Vc19
  obtain ⟨cl_ca_21, Ar_ca_21, q_ca_21, S_ca_21, M_ca_21, H_ca_21, G_ca_21⟩ := Vo_ca_21
  have pre21 : ∀ t, Steps p.tables e below (T19.setTop (mkF m 6 #[.val (.int (2 : Int32)), .val (.ref ca), .unset, .unset, .unset] [(.int (3 : Int32))])) t → Steps p.tables e below (s₁.setTop (entryFrame m #[(.int (2 : Int32))] 5)) t := fun t kt => by
    refine pre20 _ ?_
    refine X19.arraylength hx Ar_ca_21.1 (State.isArrayOf_alike hZ.alike Ar_ca_21.2.1) (g := (mkF m 5 #[.val (.int (2 : Int32)), .val (.ref ca), .unset, .unset, .unset] [(.ref ca)])) rfl rfl (hb hby d1_5) _ ?_
    rw [len_of S_ca_21 M_ca_21]
    exact kt
  have pre22 : ∀ t, Steps p.tables e below (T19.setTop (mkF m 11 #[.val (.int (2 : Int32)), .val (.ref ca), .val (.int (3 : Int32)), .val (.int (0 : Int32)), .unset] [(.int (3 : Int32)), (.int (0 : Int32))])) t → Steps p.tables e below (s₁.setTop (entryFrame m #[(.int (2 : Int32))] 5)) t := fun t kt => by
    refine pre21 _ ?_
    show Steps p.tables e below (T19.setTop (mkF m 6 #[.val (.int (2 : Int32)), .val (.ref ca), .unset, .unset, .unset] [(.int (3 : Int32))])) _
    refine XS.istoreN X19.here hx rfl (hb hby d1_6) rfl (l' := #[.val (.int (2 : Int32)), .val (.ref ca), .val (.int (3 : Int32)), .unset, .unset]) rfl ?_
    show Steps p.tables e below (T19.setTop (mkF m 7 #[.val (.int (2 : Int32)), .val (.ref ca), .val (.int (3 : Int32)), .unset, .unset] [])) _
    refine XS.iconst X19.here hx rfl (hb hby d1_7) ?_
    show Steps p.tables e below (T19.setTop (mkF m 8 #[.val (.int (2 : Int32)), .val (.ref ca), .val (.int (3 : Int32)), .unset, .unset] [(.int (0 : Int32))])) _
    refine XS.istoreN X19.here hx rfl (hb hby d1_8) rfl (l' := #[.val (.int (2 : Int32)), .val (.ref ca), .val (.int (3 : Int32)), .val (.int (0 : Int32)), .unset]) rfl ?_
    show Steps p.tables e below (T19.setTop (mkF m 9 #[.val (.int (2 : Int32)), .val (.ref ca), .val (.int (3 : Int32)), .val (.int (0 : Int32)), .unset] [])) _
    refine XS.iloadN X19.here hx rfl (hb hby d1_9) rfl ?_
    show Steps p.tables e below (T19.setTop (mkF m 10 #[.val (.int (2 : Int32)), .val (.ref ca), .val (.int (3 : Int32)), .val (.int (0 : Int32)), .unset] [(.int (0 : Int32))])) _
    refine XS.iloadN X19.here hx rfl (hb hby d1_10) rfl ?_
    show Steps p.tables e below (T19.setTop (mkF m 11 #[.val (.int (2 : Int32)), .val (.ref ca), .val (.int (3 : Int32)), .val (.int (0 : Int32)), .unset] [(.int (3 : Int32)), (.int (0 : Int32))])) _
    exact kt
  have pre23 : ∀ t, Steps p.tables e below (T19.setTop (mkF m 14 #[.val (.int (2 : Int32)), .val (.ref ca), .val (.int (3 : Int32)), .val (.int (0 : Int32)), .unset] [])) t → Steps p.tables e below (s₁.setTop (entryFrame m #[(.int (2 : Int32))] 5)) t := fun t kt => by
    refine pre22 _ ?_
    show Steps p.tables e below (T19.setTop (mkF m 11 #[.val (.int (2 : Int32)), .val (.ref ca), .val (.int (3 : Int32)), .val (.int (0 : Int32)), .unset] [(.int (3 : Int32)), (.int (0 : Int32))])) _
    refine XS.icmpNo X19.here hx rfl (hb hby d1_11) rfl (tlt (by decide : (0 : Int32) < (3 : Int32))).2.1 ?_
    show Steps p.tables e below (T19.setTop (mkF m 14 #[.val (.int (2 : Int32)), .val (.ref ca), .val (.int (3 : Int32)), .val (.int (0 : Int32)), .unset] [])) _
    exact kt
  have pre24 : ∀ t, Steps p.tables e below (T19.setTop (mkF m 16 #[.val (.int (2 : Int32)), .val (.ref ca), .val (.int (3 : Int32)), .val (.int (0 : Int32)), .unset] [(.int (0 : Int32)), (.ref ca)])) t → Steps p.tables e below (s₁.setTop (entryFrame m #[(.int (2 : Int32))] 5)) t := fun t kt => by
    refine pre23 _ ?_
    show Steps p.tables e below (T19.setTop (mkF m 14 #[.val (.int (2 : Int32)), .val (.ref ca), .val (.int (3 : Int32)), .val (.int (0 : Int32)), .unset] [])) _
    refine XS.aloadN X19.here hx rfl (hb hby d1_14) rfl rfl ?_
    show Steps p.tables e below (T19.setTop (mkF m 15 #[.val (.int (2 : Int32)), .val (.ref ca), .val (.int (3 : Int32)), .val (.int (0 : Int32)), .unset] [(.ref ca)])) _
    refine XS.iloadN X19.here hx rfl (hb hby d1_15) rfl ?_
    show Steps p.tables e below (T19.setTop (mkF m 16 #[.val (.int (2 : Int32)), .val (.ref ca), .val (.int (3 : Int32)), .val (.int (0 : Int32)), .unset] [(.int (0 : Int32)), (.ref ca)])) _
    exact kt
  have Vo_ca_25 := Vc19
  obtain ⟨cl_ca_25, Ar_ca_25, q_ca_25, S_ca_25, M_ca_25, H_ca_25, G_ca_25⟩ := Vo_ca_25
  have hin25 : ¬ ((0 : Int32) < 0 ∨ cl_ca_25.slots.size ≤ ((0 : Int32)).toNatClampNeg) := inb_of S_ca_25 ⟨by decide, by decide⟩
  have hat25 : cl_ca_25.slots[((0 : Int32)).toNatClampNeg]? = some (.ref wH) := H_ca_25.at hin25 rfl
  have pre26 : ∀ t, Steps p.tables e below (T19.setTop (mkF m 17 #[.val (.int (2 : Int32)), .val (.ref ca), .val (.int (3 : Int32)), .val (.int (0 : Int32)), .unset] [(.ref wH)])) t → Steps p.tables e below (s₁.setTop (entryFrame m #[(.int (2 : Int32))] 5)) t := fun t kt => pre24 _ (X19.aaload hx (j := (0 : Int32)) (v := (.ref wH)) Ar_ca_25.1 (State.isArrayOf_alike hZ.alike Ar_ca_25.2.1) rfl Ar_ca_25.2.2 hin25 hat25 (g := (mkF m 16 #[.val (.int (2 : Int32)), .val (.ref ca), .val (.int (3 : Int32)), .val (.int (0 : Int32)), .unset] [(.int (0 : Int32)), (.ref ca)])) rfl rfl (hb hby d1_16) t kt)
  have pre27 : ∀ t, Steps p.tables e below (T19.setTop (mkF m 21 #[.val (.int (2 : Int32)), .val (.ref ca), .val (.int (3 : Int32)), .val (.int (0 : Int32)), .val (.ref wH)] [(.ref wH)])) t → Steps p.tables e below (s₁.setTop (entryFrame m #[(.int (2 : Int32))] 5)) t := fun t kt => by
    refine pre26 _ ?_
    show Steps p.tables e below (T19.setTop (mkF m 17 #[.val (.int (2 : Int32)), .val (.ref ca), .val (.int (3 : Int32)), .val (.int (0 : Int32)), .unset] [(.ref wH)])) _
    refine XS.astore X19.here hx rfl (hb hby d1_17) rfl rfl (l' := #[.val (.int (2 : Int32)), .val (.ref ca), .val (.int (3 : Int32)), .val (.int (0 : Int32)), .val (.ref wH)]) rfl ?_
    show Steps p.tables e below (T19.setTop (mkF m 19 #[.val (.int (2 : Int32)), .val (.ref ca), .val (.int (3 : Int32)), .val (.int (0 : Int32)), .val (.ref wH)] [])) _
    refine XS.aload X19.here hx rfl (hb hby d1_19) rfl rfl ?_
    show Steps p.tables e below (T19.setTop (mkF m 21 #[.val (.int (2 : Int32)), .val (.ref ca), .val (.int (3 : Int32)), .val (.int (0 : Int32)), .val (.ref wH)] [(.ref wH)])) _
    exact kt
  obtain ⟨T28, X28, e28, st28⟩ := getF X19 hx hZ hown (host := "") (Or.inl (hw _ (List.mem_of_getElem? (i := 22) rfl))) Via.refl rfl F19_0 (g := (mkF m 21 #[.val (.int (2 : Int32)), .val (.ref ca), .val (.int (3 : Int32)), .val (.int (0 : Int32)), .val (.ref wH)] [(.ref wH)])) rfl rfl (hb hby d1_21)
  have pre28 : ∀ t, Steps p.tables e below (T28.setTop (mkF m 24 #[.val (.int (2 : Int32)), .val (.ref ca), .val (.int (3 : Int32)), .val (.int (0 : Int32)), .val (.ref wH)] [(.int (1 : Int32))])) t → Steps p.tables e below (s₁.setTop (entryFrame m #[(.int (2 : Int32))] 5)) t := fun t kt => pre27 _ (st28 t kt)
  have pre29 : ∀ t, Steps p.tables e below (T28.setTop (mkF m 25 #[.val (.int (2 : Int32)), .val (.ref ca), .val (.int (3 : Int32)), .val (.int (0 : Int32)), .val (.ref wH)] [(.int (2 : Int32)), (.int (1 : Int32))])) t → Steps p.tables e below (s₁.setTop (entryFrame m #[(.int (2 : Int32))] 5)) t := fun t kt => by
    refine pre28 _ ?_
    show Steps p.tables e below (T28.setTop (mkF m 24 #[.val (.int (2 : Int32)), .val (.ref ca), .val (.int (3 : Int32)), .val (.int (0 : Int32)), .val (.ref wH)] [(.int (1 : Int32))])) _
    refine XS.iloadN X28.here hx rfl (hb hby d1_24) rfl ?_
    show Steps p.tables e below (T28.setTop (mkF m 25 #[.val (.int (2 : Int32)), .val (.ref ca), .val (.int (3 : Int32)), .val (.int (0 : Int32)), .val (.ref wH)] [(.int (2 : Int32)), (.int (1 : Int32))])) _
    exact kt
  have pre30 : ∀ t, Steps p.tables e below (T28.setTop (mkF m 31 #[.val (.int (2 : Int32)), .val (.ref ca), .val (.int (3 : Int32)), .val (.int (0 : Int32)), .val (.ref wH)] [])) t → Steps p.tables e below (s₁.setTop (entryFrame m #[(.int (2 : Int32))] 5)) t := fun t kt => by
    refine pre29 _ ?_
    show Steps p.tables e below (T28.setTop (mkF m 25 #[.val (.int (2 : Int32)), .val (.ref ca), .val (.int (3 : Int32)), .val (.int (0 : Int32)), .val (.ref wH)] [(.int (2 : Int32)), (.int (1 : Int32))])) _
    refine XS.icmpYes X28.here hx rfl (pc0 := 25) (pc' := 31) rfl (hb hby d1_25) rfl (feq (by decide : ¬ ((1 : Int32) = (2 : Int32)))).2 (by decide) (by decide) ?_
    show Steps p.tables e below (T28.setTop (mkF m 31 #[.val (.int (2 : Int32)), .val (.ref ca), .val (.int (3 : Int32)), .val (.int (0 : Int32)), .val (.ref wH)] [])) _
    exact kt
  have pre31 : ∀ t, Steps p.tables e below (T28.setTop (mkF m 11 #[.val (.int (2 : Int32)), .val (.ref ca), .val (.int (3 : Int32)), .val (.int ((0 : Int32) + (1 : Int32))), .val (.ref wH)] [(.int (3 : Int32)), (.int ((0 : Int32) + (1 : Int32)))])) t → Steps p.tables e below (s₁.setTop (entryFrame m #[(.int (2 : Int32))] 5)) t := fun t kt => by
    refine pre30 _ ?_
    show Steps p.tables e below (T28.setTop (mkF m 31 #[.val (.int (2 : Int32)), .val (.ref ca), .val (.int (3 : Int32)), .val (.int (0 : Int32)), .val (.ref wH)] [])) _
    refine XS.iinc X28.here hx rfl (hb hby d1_31) rfl (l' := #[.val (.int (2 : Int32)), .val (.ref ca), .val (.int (3 : Int32)), .val (.int ((0 : Int32) + (1 : Int32))), .val (.ref wH)]) rfl ?_
    show Steps p.tables e below (T28.setTop (mkF m 34 #[.val (.int (2 : Int32)), .val (.ref ca), .val (.int (3 : Int32)), .val (.int ((0 : Int32) + (1 : Int32))), .val (.ref wH)] [])) _
    refine XS.goto X28.here hx rfl (pc0 := 34) (pc' := 9) rfl (hb hby d1_34) (by decide) (by decide) ?_
    show Steps p.tables e below (T28.setTop (mkF m 9 #[.val (.int (2 : Int32)), .val (.ref ca), .val (.int (3 : Int32)), .val (.int ((0 : Int32) + (1 : Int32))), .val (.ref wH)] [])) _
    refine XS.iloadN X28.here hx rfl (hb hby d1_9) rfl ?_
    show Steps p.tables e below (T28.setTop (mkF m 10 #[.val (.int (2 : Int32)), .val (.ref ca), .val (.int (3 : Int32)), .val (.int ((0 : Int32) + (1 : Int32))), .val (.ref wH)] [(.int ((0 : Int32) + (1 : Int32)))])) _
    refine XS.iloadN X28.here hx rfl (hb hby d1_10) rfl ?_
    show Steps p.tables e below (T28.setTop (mkF m 11 #[.val (.int (2 : Int32)), .val (.ref ca), .val (.int (3 : Int32)), .val (.int ((0 : Int32) + (1 : Int32))), .val (.ref wH)] [(.int (3 : Int32)), (.int ((0 : Int32) + (1 : Int32)))])) _
    exact kt
  have pre32 : ∀ t, Steps p.tables e below (T28.setTop (mkF m 14 #[.val (.int (2 : Int32)), .val (.ref ca), .val (.int (3 : Int32)), .val (.int ((0 : Int32) + (1 : Int32))), .val (.ref wH)] [])) t → Steps p.tables e below (s₁.setTop (entryFrame m #[(.int (2 : Int32))] 5)) t := fun t kt => by
    refine pre31 _ ?_
    show Steps p.tables e below (T28.setTop (mkF m 11 #[.val (.int (2 : Int32)), .val (.ref ca), .val (.int (3 : Int32)), .val (.int ((0 : Int32) + (1 : Int32))), .val (.ref wH)] [(.int (3 : Int32)), (.int ((0 : Int32) + (1 : Int32)))])) _
    refine XS.icmpNo X28.here hx rfl (hb hby d1_11) rfl (tlt (by decide : ((0 : Int32) + (1 : Int32)) < (3 : Int32))).2.1 ?_
    show Steps p.tables e below (T28.setTop (mkF m 14 #[.val (.int (2 : Int32)), .val (.ref ca), .val (.int (3 : Int32)), .val (.int ((0 : Int32) + (1 : Int32))), .val (.ref wH)] [])) _
    exact kt
  have pre33 : ∀ t, Steps p.tables e below (T28.setTop (mkF m 16 #[.val (.int (2 : Int32)), .val (.ref ca), .val (.int (3 : Int32)), .val (.int ((0 : Int32) + (1 : Int32))), .val (.ref wH)] [(.int ((0 : Int32) + (1 : Int32))), (.ref ca)])) t → Steps p.tables e below (s₁.setTop (entryFrame m #[(.int (2 : Int32))] 5)) t := fun t kt => by
    refine pre32 _ ?_
    show Steps p.tables e below (T28.setTop (mkF m 14 #[.val (.int (2 : Int32)), .val (.ref ca), .val (.int (3 : Int32)), .val (.int ((0 : Int32) + (1 : Int32))), .val (.ref wH)] [])) _
    refine XS.aloadN X28.here hx rfl (hb hby d1_14) rfl rfl ?_
    show Steps p.tables e below (T28.setTop (mkF m 15 #[.val (.int (2 : Int32)), .val (.ref ca), .val (.int (3 : Int32)), .val (.int ((0 : Int32) + (1 : Int32))), .val (.ref wH)] [(.ref ca)])) _
    refine XS.iloadN X28.here hx rfl (hb hby d1_15) rfl ?_
    show Steps p.tables e below (T28.setTop (mkF m 16 #[.val (.int (2 : Int32)), .val (.ref ca), .val (.int (3 : Int32)), .val (.int ((0 : Int32) + (1 : Int32))), .val (.ref wH)] [(.int ((0 : Int32) + (1 : Int32))), (.ref ca)])) _
    exact kt
  have Vo_ca_34 := Vc19
  obtain ⟨cl_ca_34, Ar_ca_34, q_ca_34, S_ca_34, M_ca_34, H_ca_34, G_ca_34⟩ := Vo_ca_34
  have hin34 : ¬ (((0 : Int32) + (1 : Int32)) < 0 ∨ cl_ca_34.slots.size ≤ (((0 : Int32) + (1 : Int32))).toNatClampNeg) := inb_of S_ca_34 ⟨by decide, by decide⟩
  have hat34 : cl_ca_34.slots[(((0 : Int32) + (1 : Int32))).toNatClampNeg]? = some (.ref wS) := H_ca_34.at hin34 rfl
  have pre35 : ∀ t, Steps p.tables e below (T28.setTop (mkF m 17 #[.val (.int (2 : Int32)), .val (.ref ca), .val (.int (3 : Int32)), .val (.int ((0 : Int32) + (1 : Int32))), .val (.ref wH)] [(.ref wS)])) t → Steps p.tables e below (s₁.setTop (entryFrame m #[(.int (2 : Int32))] 5)) t := fun t kt => pre33 _ (X28.aaload hx (j := ((0 : Int32) + (1 : Int32))) (v := (.ref wS)) (by rw [e28]; exact Ar_ca_34.1) (State.isArrayOf_alike hZ.alike Ar_ca_34.2.1) rfl Ar_ca_34.2.2 hin34 hat34 (g := (mkF m 16 #[.val (.int (2 : Int32)), .val (.ref ca), .val (.int (3 : Int32)), .val (.int ((0 : Int32) + (1 : Int32))), .val (.ref wH)] [(.int ((0 : Int32) + (1 : Int32))), (.ref ca)])) rfl rfl (hb hby d1_16) t kt)
  have pre36 : ∀ t, Steps p.tables e below (T28.setTop (mkF m 21 #[.val (.int (2 : Int32)), .val (.ref ca), .val (.int (3 : Int32)), .val (.int ((0 : Int32) + (1 : Int32))), .val (.ref wS)] [(.ref wS)])) t → Steps p.tables e below (s₁.setTop (entryFrame m #[(.int (2 : Int32))] 5)) t := fun t kt => by
    refine pre35 _ ?_
    show Steps p.tables e below (T28.setTop (mkF m 17 #[.val (.int (2 : Int32)), .val (.ref ca), .val (.int (3 : Int32)), .val (.int ((0 : Int32) + (1 : Int32))), .val (.ref wH)] [(.ref wS)])) _
    refine XS.astore X28.here hx rfl (hb hby d1_17) rfl rfl (l' := #[.val (.int (2 : Int32)), .val (.ref ca), .val (.int (3 : Int32)), .val (.int ((0 : Int32) + (1 : Int32))), .val (.ref wS)]) rfl ?_
    show Steps p.tables e below (T28.setTop (mkF m 19 #[.val (.int (2 : Int32)), .val (.ref ca), .val (.int (3 : Int32)), .val (.int ((0 : Int32) + (1 : Int32))), .val (.ref wS)] [])) _
    refine XS.aload X28.here hx rfl (hb hby d1_19) rfl rfl ?_
    show Steps p.tables e below (T28.setTop (mkF m 21 #[.val (.int (2 : Int32)), .val (.ref ca), .val (.int (3 : Int32)), .val (.int ((0 : Int32) + (1 : Int32))), .val (.ref wS)] [(.ref wS)])) _
    exact kt
  obtain ⟨T37, X37, e37, st37⟩ := getF X28 hx hZ hown (host := "") (Or.inl (hw _ (List.mem_of_getElem? (i := 22) rfl))) Via.refl e28 F19_1 (g := (mkF m 21 #[.val (.int (2 : Int32)), .val (.ref ca), .val (.int (3 : Int32)), .val (.int ((0 : Int32) + (1 : Int32))), .val (.ref wS)] [(.ref wS)])) rfl rfl (hb hby d1_21)
  have pre37 : ∀ t, Steps p.tables e below (T37.setTop (mkF m 24 #[.val (.int (2 : Int32)), .val (.ref ca), .val (.int (3 : Int32)), .val (.int ((0 : Int32) + (1 : Int32))), .val (.ref wS)] [(.int (2 : Int32))])) t → Steps p.tables e below (s₁.setTop (entryFrame m #[(.int (2 : Int32))] 5)) t := fun t kt => pre36 _ (st37 t kt)
  have pre38 : ∀ t, Steps p.tables e below (T37.setTop (mkF m 25 #[.val (.int (2 : Int32)), .val (.ref ca), .val (.int (3 : Int32)), .val (.int ((0 : Int32) + (1 : Int32))), .val (.ref wS)] [(.int (2 : Int32)), (.int (2 : Int32))])) t → Steps p.tables e below (s₁.setTop (entryFrame m #[(.int (2 : Int32))] 5)) t := fun t kt => by
    refine pre37 _ ?_
    show Steps p.tables e below (T37.setTop (mkF m 24 #[.val (.int (2 : Int32)), .val (.ref ca), .val (.int (3 : Int32)), .val (.int ((0 : Int32) + (1 : Int32))), .val (.ref wS)] [(.int (2 : Int32))])) _
    refine XS.iloadN X37.here hx rfl (hb hby d1_24) rfl ?_
    show Steps p.tables e below (T37.setTop (mkF m 25 #[.val (.int (2 : Int32)), .val (.ref ca), .val (.int (3 : Int32)), .val (.int ((0 : Int32) + (1 : Int32))), .val (.ref wS)] [(.int (2 : Int32)), (.int (2 : Int32))])) _
    exact kt
  have pre39 : ∀ t, Steps p.tables e below (T37.setTop (mkF m 28 #[.val (.int (2 : Int32)), .val (.ref ca), .val (.int (3 : Int32)), .val (.int ((0 : Int32) + (1 : Int32))), .val (.ref wS)] [])) t → Steps p.tables e below (s₁.setTop (entryFrame m #[(.int (2 : Int32))] 5)) t := fun t kt => by
    refine pre38 _ ?_
    show Steps p.tables e below (T37.setTop (mkF m 25 #[.val (.int (2 : Int32)), .val (.ref ca), .val (.int (3 : Int32)), .val (.int ((0 : Int32) + (1 : Int32))), .val (.ref wS)] [(.int (2 : Int32)), (.int (2 : Int32))])) _
    refine XS.icmpNo X37.here hx rfl (hb hby d1_25) rfl (teq (by decide : (2 : Int32) = (2 : Int32))).2 ?_
    show Steps p.tables e below (T37.setTop (mkF m 28 #[.val (.int (2 : Int32)), .val (.ref ca), .val (.int (3 : Int32)), .val (.int ((0 : Int32) + (1 : Int32))), .val (.ref wS)] [])) _
    exact kt
  have pre40 : ∀ t, Steps p.tables e below (T37.setTop (mkF m 30 #[.val (.int (2 : Int32)), .val (.ref ca), .val (.int (3 : Int32)), .val (.int ((0 : Int32) + (1 : Int32))), .val (.ref wS)] [(.ref wS)])) t → Steps p.tables e below (s₁.setTop (entryFrame m #[(.int (2 : Int32))] 5)) t := fun t kt => by
    refine pre39 _ ?_
    show Steps p.tables e below (T37.setTop (mkF m 28 #[.val (.int (2 : Int32)), .val (.ref ca), .val (.int (3 : Int32)), .val (.int ((0 : Int32) + (1 : Int32))), .val (.ref wS)] [])) _
    refine XS.aload X37.here hx rfl (hb hby d1_28) rfl rfl ?_
    show Steps p.tables e below (T37.setTop (mkF m 30 #[.val (.int (2 : Int32)), .val (.ref ca), .val (.int (3 : Int32)), .val (.int ((0 : Int32) + (1 : Int32))), .val (.ref wS)] [(.ref wS)])) _
    exact kt
  obtain ⟨fs, hr, hrun, hended, hW, hsame⟩ := X37.leave (v := some (.ref wS)) (fun h => by rw [Bd.returns] at h; cases h)
  refine ⟨_, _, pre40 _ ?_, hrun, hended, _, _, rfl, ?_, ⟨_, rfl⟩, hW, hsame.mono (by decide) (by decide)⟩
  · show Steps p.tables e below (T37.setTop (mkF m 30 #[.val (.int (2 : Int32)), .val (.ref ca), .val (.int (3 : Int32)), .val (.int ((0 : Int32) + (1 : Int32))), .val (.ref wS)] [(.ref wS)])) _
    jvm_step X37.here [X37.here.top, hx, (hb hby d1_30), X37.method', Bd.returns, Value.isRef, FieldType.isReference]
    first | (intro acts; rw [hr _ acts rfl rfl rfl]) | rw [hr _ _ rfl rfl rfl]
    exact Steps.refl _
  · show Q1_2 (.ref wS) h0 n0 _ T37.heap _
    rw [e37]
    exact ⟨rfl, N19, K19⟩
def Q1_3 (wo : Value) (h0 : Heap) (n0 : Nat) (v : Option Value) (h : Heap) (L : List Loc) : Prop := v = some wo ∧ Fr n0 L ∧ Keep h0 h []
set_option maxRecDepth 65536 in
set_option maxHeartbeats 40000000 in
theorem rm1_3 (l : Launch) (Z : State) (aZ : Array Value) (hw : ∀ d ∈ tables_1, d.before aZ Z = true) (ws : List Jvm.Cond)  (wV wH wS wR : Addr) (kv : ClassId) (h0 : Heap) (n0 : Nat) (Z0 : n0 ≤ h0.size) (S_V : Sta Z h0 "com/example/leafweight/leafweight/BlockType" "$VALUES" "[Lcom/example/leafweight/leafweight/BlockType;" (.ref wV)) (V_V : Arv Z h0 wV kv (.object "com/example/leafweight/leafweight/BlockType") (3 : Int32) [(.ref wH), (.ref wS), (.ref wR)] .null) (E_V : Exa Z h0 wV "[Lcom/example/leafweight/leafweight/BlockType;") (F_1 : Fld Z h0 wH "com/example/leafweight/leafweight/BlockType" "code" "I" (.int (1 : Int32))) (F_2 : Fld Z h0 wS "com/example/leafweight/leafweight/BlockType" "code" "I" (.int (2 : Int32))) (F_3 : Fld Z h0 wR "com/example/leafweight/leafweight/BlockType" "code" "I" (.int (3 : Int32)))  :
    MetFree l (⟨"com/example/leafweight/leafweight/BlockType", "of", "(I)Lcom/example/leafweight/leafweight/BlockType;"⟩ : MethodName) (head1 (Jvm.Cond.code (⟨"com/example/leafweight/leafweight/BlockType", "of", "(I)Lcom/example/leafweight/leafweight/BlockType;"⟩ : MethodName) prog_15_method_7_code 5 (some (.object "com/example/leafweight/leafweight/BlockType")) :: ws) ({ frames := 2, cells := 1, slots := 3, locals := 25 } : Room)) (fun a U => a = #[(.int (3 : Int32))] ∧ Z.Warmed39 U.vm ∧ U.heap = h0) (fun _ _ _ _ _ => True) (fun _ U oc U' => ∃ v L, oc = .returned v ∧ Q1_3 (.ref wR) h0 n0 v U'.heap L ∧ FrameEnd U oc U' L ({ frames := 2, cells := 1, slots := 3, locals := 25 } : Room).cells ({ frames := 2, cells := 1, slots := 3, locals := 25 } : Room).slots) := by
  refine MetFree.of_bodySF (plainFor_of_name pn_2) hisR ?_
  intro p e s m args below meth c s₁ Bd hml0 hP hK
  obtain ⟨rfl, hZ, hh⟩ := hP
  have hx := Bd.exec
  have hby := Bd.bytes
  have hml : c.maxLocals = 5 := hml0
  have hown : s.vm.findClass "com/example/leafweight/leafweight/BlockType" = some m.cls := findClass_of_methodNamed Bd.named
  have hnm := (name_of_methodNamed Bd.named Bd.method).1
  have X0 : Stand p l e ({ frames := 2, cells := 1, slots := 3, locals := 25 } : Room) s m #[(.int (3 : Int32))] below meth c s₁ [] 0 0 := Stand.of_body Bd
  have e0 : s₁.heap = h0 := by rw [← hh, Bd.state]; rfl
  have N0 := Fr.nil n0
  have pre0 : ∀ t, Steps p.tables e below (s₁.setTop (mkF m 0 #[.val (.int (3 : Int32)), .unset, .unset, .unset, .unset] [])) t → Steps p.tables e below (s₁.setTop (entryFrame m #[(.int (3 : Int32))] 5)) t := fun t kt => castTop (ef_1 m (3 : Int32)) kt
  obtain ⟨v42, _, ⟨T42, L42, k42, n42⟩, -, X42, ⟨Lc42, hQ42, l42, y42, z42⟩, st42⟩ := Jvm.LawKit.callS X0 hx (y := (⟨"com/example/leafweight/leafweight/BlockType", "values", "()[Lcom/example/leafweight/leafweight/BlockType;"⟩ : MethodName)) hown (mvT hZ (hw _ (List.mem_of_getElem? (i := 4) rfl))) (mvT hZ (hw _ (List.mem_of_getElem? (i := 5) rfl))) (mvT hZ (hw _ (List.mem_of_getElem? (i := 2) rfl))) (mvT hZ (hw _ (List.mem_of_getElem? (i := 6) rfl))) (by decide) (backOf (W := 0) (rm2 l Z aZ hw []  wV wH wS wR kv h0 n0 Z0 S_V V_V E_V) hZ (hw _ (List.mem_of_getElem? (i := 6) rfl)) (hw _ (List.mem_of_getElem? (i := 2) rfl)) (by decide) (by decide)) (g := (mkF m 0 #[.val (.int (3 : Int32)), .unset, .unset, .unset, .unset] [])) rfl (by rw [hml]; rfl) (argsL := []) (rest := []) (lenOf pd_1 rfl) rfl (by show 2 * 0 + _ ≤ _; exact Nat.le_of_eq rfl) (hb hby d1_0) (fun _ _ => ⟨rfl, e0, (by decide : 0 + 1 ≤ _), (by decide : 0 + 3 ≤ _)⟩)
  dsimp only [Pt.U, Pt.locs, Pt.cells, Pt.slots] at X42 l42 y42 z42 st42 hQ42
  rw [l42, y42, z42] at X42
  clear l42 y42 z42
  obtain ⟨ca, vq42, N42q, Kc42, sz_ca, Vc42⟩ := hQ42
  rw [vq42] at st42
  have N42 := Fr.app N0 N42q
  have pre42 : ∀ t, Steps p.tables e below (T42.setTop (mkF m 3 #[.val (.int (3 : Int32)), .unset, .unset, .unset, .unset] [(.ref ca)])) t → Steps p.tables e below (s₁.setTop (entryFrame m #[(.int (3 : Int32))] 5)) t := fun t kt => pre0 _ (st42 t kt)
  have Zs42 : n0 ≤ T42.heap.size := Nat.le_trans Z0 Kc42.1
  have F42_0 := F_1.keep Kc42 (by simp)
  have F42_1 := F_2.keep Kc42 (by simp)
  have F42_2 := F_3.keep Kc42 (by simp)
  have K0 := Keep.refl h0 []
  have K42 := K0.trans Kc42 (by simp)
  have pre43 : ∀ t, Steps p.tables e below (T42.setTop (mkF m 5 #[.val (.int (3 : Int32)), .val (.ref ca), .unset, .unset, .unset] [(.ref ca)])) t → Steps p.tables e below (s₁.setTop (entryFrame m #[(.int (3 : Int32))] 5)) t := fun t kt => by
    refine pre42 _ ?_
    show Steps p.tables e below (T42.setTop (mkF m 3 #[.val (.int (3 : Int32)), .unset, .unset, .unset, .unset] [(.ref ca)])) _
    refine XS.astoreN X42.here hx rfl (hb hby d1_3) rfl rfl (l' := #[.val (.int (3 : Int32)), .val (.ref ca), .unset, .unset, .unset]) rfl ?_
    show Steps p.tables e below (T42.setTop (mkF m 4 #[.val (.int (3 : Int32)), .val (.ref ca), .unset, .unset, .unset] [])) _
    refine XS.aloadN X42.here hx rfl (hb hby d1_4) rfl rfl ?_
    show Steps p.tables e below (T42.setTop (mkF m 5 #[.val (.int (3 : Int32)), .val (.ref ca), .unset, .unset, .unset] [(.ref ca)])) _
    exact kt
  have Vo_ca_44 := Vc42
  obtain ⟨cl_ca_44, Ar_ca_44, q_ca_44, S_ca_44, M_ca_44, H_ca_44, G_ca_44⟩ := Vo_ca_44
  have pre44 : ∀ t, Steps p.tables e below (T42.setTop (mkF m 6 #[.val (.int (3 : Int32)), .val (.ref ca), .unset, .unset, .unset] [(.int (3 : Int32))])) t → Steps p.tables e below (s₁.setTop (entryFrame m #[(.int (3 : Int32))] 5)) t := fun t kt => by
    refine pre43 _ ?_
    refine X42.arraylength hx Ar_ca_44.1 (State.isArrayOf_alike hZ.alike Ar_ca_44.2.1) (g := (mkF m 5 #[.val (.int (3 : Int32)), .val (.ref ca), .unset, .unset, .unset] [(.ref ca)])) rfl rfl (hb hby d1_5) _ ?_
    rw [len_of S_ca_44 M_ca_44]
    exact kt
  have pre45 : ∀ t, Steps p.tables e below (T42.setTop (mkF m 11 #[.val (.int (3 : Int32)), .val (.ref ca), .val (.int (3 : Int32)), .val (.int (0 : Int32)), .unset] [(.int (3 : Int32)), (.int (0 : Int32))])) t → Steps p.tables e below (s₁.setTop (entryFrame m #[(.int (3 : Int32))] 5)) t := fun t kt => by
    refine pre44 _ ?_
    show Steps p.tables e below (T42.setTop (mkF m 6 #[.val (.int (3 : Int32)), .val (.ref ca), .unset, .unset, .unset] [(.int (3 : Int32))])) _
    refine XS.istoreN X42.here hx rfl (hb hby d1_6) rfl (l' := #[.val (.int (3 : Int32)), .val (.ref ca), .val (.int (3 : Int32)), .unset, .unset]) rfl ?_
    show Steps p.tables e below (T42.setTop (mkF m 7 #[.val (.int (3 : Int32)), .val (.ref ca), .val (.int (3 : Int32)), .unset, .unset] [])) _
    refine XS.iconst X42.here hx rfl (hb hby d1_7) ?_
    show Steps p.tables e below (T42.setTop (mkF m 8 #[.val (.int (3 : Int32)), .val (.ref ca), .val (.int (3 : Int32)), .unset, .unset] [(.int (0 : Int32))])) _
    refine XS.istoreN X42.here hx rfl (hb hby d1_8) rfl (l' := #[.val (.int (3 : Int32)), .val (.ref ca), .val (.int (3 : Int32)), .val (.int (0 : Int32)), .unset]) rfl ?_
    show Steps p.tables e below (T42.setTop (mkF m 9 #[.val (.int (3 : Int32)), .val (.ref ca), .val (.int (3 : Int32)), .val (.int (0 : Int32)), .unset] [])) _
    refine XS.iloadN X42.here hx rfl (hb hby d1_9) rfl ?_
    show Steps p.tables e below (T42.setTop (mkF m 10 #[.val (.int (3 : Int32)), .val (.ref ca), .val (.int (3 : Int32)), .val (.int (0 : Int32)), .unset] [(.int (0 : Int32))])) _
    refine XS.iloadN X42.here hx rfl (hb hby d1_10) rfl ?_
    show Steps p.tables e below (T42.setTop (mkF m 11 #[.val (.int (3 : Int32)), .val (.ref ca), .val (.int (3 : Int32)), .val (.int (0 : Int32)), .unset] [(.int (3 : Int32)), (.int (0 : Int32))])) _
    exact kt
  have pre46 : ∀ t, Steps p.tables e below (T42.setTop (mkF m 14 #[.val (.int (3 : Int32)), .val (.ref ca), .val (.int (3 : Int32)), .val (.int (0 : Int32)), .unset] [])) t → Steps p.tables e below (s₁.setTop (entryFrame m #[(.int (3 : Int32))] 5)) t := fun t kt => by
    refine pre45 _ ?_
    show Steps p.tables e below (T42.setTop (mkF m 11 #[.val (.int (3 : Int32)), .val (.ref ca), .val (.int (3 : Int32)), .val (.int (0 : Int32)), .unset] [(.int (3 : Int32)), (.int (0 : Int32))])) _
    refine XS.icmpNo X42.here hx rfl (hb hby d1_11) rfl (tlt (by decide : (0 : Int32) < (3 : Int32))).2.1 ?_
    show Steps p.tables e below (T42.setTop (mkF m 14 #[.val (.int (3 : Int32)), .val (.ref ca), .val (.int (3 : Int32)), .val (.int (0 : Int32)), .unset] [])) _
    exact kt
  have pre47 : ∀ t, Steps p.tables e below (T42.setTop (mkF m 16 #[.val (.int (3 : Int32)), .val (.ref ca), .val (.int (3 : Int32)), .val (.int (0 : Int32)), .unset] [(.int (0 : Int32)), (.ref ca)])) t → Steps p.tables e below (s₁.setTop (entryFrame m #[(.int (3 : Int32))] 5)) t := fun t kt => by
    refine pre46 _ ?_
    show Steps p.tables e below (T42.setTop (mkF m 14 #[.val (.int (3 : Int32)), .val (.ref ca), .val (.int (3 : Int32)), .val (.int (0 : Int32)), .unset] [])) _
    refine XS.aloadN X42.here hx rfl (hb hby d1_14) rfl rfl ?_
    show Steps p.tables e below (T42.setTop (mkF m 15 #[.val (.int (3 : Int32)), .val (.ref ca), .val (.int (3 : Int32)), .val (.int (0 : Int32)), .unset] [(.ref ca)])) _
    refine XS.iloadN X42.here hx rfl (hb hby d1_15) rfl ?_
    show Steps p.tables e below (T42.setTop (mkF m 16 #[.val (.int (3 : Int32)), .val (.ref ca), .val (.int (3 : Int32)), .val (.int (0 : Int32)), .unset] [(.int (0 : Int32)), (.ref ca)])) _
    exact kt
  have Vo_ca_48 := Vc42
  obtain ⟨cl_ca_48, Ar_ca_48, q_ca_48, S_ca_48, M_ca_48, H_ca_48, G_ca_48⟩ := Vo_ca_48
  have hin48 : ¬ ((0 : Int32) < 0 ∨ cl_ca_48.slots.size ≤ ((0 : Int32)).toNatClampNeg) := inb_of S_ca_48 ⟨by decide, by decide⟩
  have hat48 : cl_ca_48.slots[((0 : Int32)).toNatClampNeg]? = some (.ref wH) := H_ca_48.at hin48 rfl
  have pre49 : ∀ t, Steps p.tables e below (T42.setTop (mkF m 17 #[.val (.int (3 : Int32)), .val (.ref ca), .val (.int (3 : Int32)), .val (.int (0 : Int32)), .unset] [(.ref wH)])) t → Steps p.tables e below (s₁.setTop (entryFrame m #[(.int (3 : Int32))] 5)) t := fun t kt => pre47 _ (X42.aaload hx (j := (0 : Int32)) (v := (.ref wH)) Ar_ca_48.1 (State.isArrayOf_alike hZ.alike Ar_ca_48.2.1) rfl Ar_ca_48.2.2 hin48 hat48 (g := (mkF m 16 #[.val (.int (3 : Int32)), .val (.ref ca), .val (.int (3 : Int32)), .val (.int (0 : Int32)), .unset] [(.int (0 : Int32)), (.ref ca)])) rfl rfl (hb hby d1_16) t kt)
  have pre50 : ∀ t, Steps p.tables e below (T42.setTop (mkF m 21 #[.val (.int (3 : Int32)), .val (.ref ca), .val (.int (3 : Int32)), .val (.int (0 : Int32)), .val (.ref wH)] [(.ref wH)])) t → Steps p.tables e below (s₁.setTop (entryFrame m #[(.int (3 : Int32))] 5)) t := fun t kt => by
    refine pre49 _ ?_
    show Steps p.tables e below (T42.setTop (mkF m 17 #[.val (.int (3 : Int32)), .val (.ref ca), .val (.int (3 : Int32)), .val (.int (0 : Int32)), .unset] [(.ref wH)])) _
    refine XS.astore X42.here hx rfl (hb hby d1_17) rfl rfl (l' := #[.val (.int (3 : Int32)), .val (.ref ca), .val (.int (3 : Int32)), .val (.int (0 : Int32)), .val (.ref wH)]) rfl ?_
    show Steps p.tables e below (T42.setTop (mkF m 19 #[.val (.int (3 : Int32)), .val (.ref ca), .val (.int (3 : Int32)), .val (.int (0 : Int32)), .val (.ref wH)] [])) _
    refine XS.aload X42.here hx rfl (hb hby d1_19) rfl rfl ?_
    show Steps p.tables e below (T42.setTop (mkF m 21 #[.val (.int (3 : Int32)), .val (.ref ca), .val (.int (3 : Int32)), .val (.int (0 : Int32)), .val (.ref wH)] [(.ref wH)])) _
    exact kt
  obtain ⟨T51, X51, e51, st51⟩ := getF X42 hx hZ hown (host := "") (Or.inl (hw _ (List.mem_of_getElem? (i := 22) rfl))) Via.refl rfl F42_0 (g := (mkF m 21 #[.val (.int (3 : Int32)), .val (.ref ca), .val (.int (3 : Int32)), .val (.int (0 : Int32)), .val (.ref wH)] [(.ref wH)])) rfl rfl (hb hby d1_21)
  have pre51 : ∀ t, Steps p.tables e below (T51.setTop (mkF m 24 #[.val (.int (3 : Int32)), .val (.ref ca), .val (.int (3 : Int32)), .val (.int (0 : Int32)), .val (.ref wH)] [(.int (1 : Int32))])) t → Steps p.tables e below (s₁.setTop (entryFrame m #[(.int (3 : Int32))] 5)) t := fun t kt => pre50 _ (st51 t kt)
  have pre52 : ∀ t, Steps p.tables e below (T51.setTop (mkF m 25 #[.val (.int (3 : Int32)), .val (.ref ca), .val (.int (3 : Int32)), .val (.int (0 : Int32)), .val (.ref wH)] [(.int (3 : Int32)), (.int (1 : Int32))])) t → Steps p.tables e below (s₁.setTop (entryFrame m #[(.int (3 : Int32))] 5)) t := fun t kt => by
    refine pre51 _ ?_
    show Steps p.tables e below (T51.setTop (mkF m 24 #[.val (.int (3 : Int32)), .val (.ref ca), .val (.int (3 : Int32)), .val (.int (0 : Int32)), .val (.ref wH)] [(.int (1 : Int32))])) _
    refine XS.iloadN X51.here hx rfl (hb hby d1_24) rfl ?_
    show Steps p.tables e below (T51.setTop (mkF m 25 #[.val (.int (3 : Int32)), .val (.ref ca), .val (.int (3 : Int32)), .val (.int (0 : Int32)), .val (.ref wH)] [(.int (3 : Int32)), (.int (1 : Int32))])) _
    exact kt
  have pre53 : ∀ t, Steps p.tables e below (T51.setTop (mkF m 31 #[.val (.int (3 : Int32)), .val (.ref ca), .val (.int (3 : Int32)), .val (.int (0 : Int32)), .val (.ref wH)] [])) t → Steps p.tables e below (s₁.setTop (entryFrame m #[(.int (3 : Int32))] 5)) t := fun t kt => by
    refine pre52 _ ?_
    show Steps p.tables e below (T51.setTop (mkF m 25 #[.val (.int (3 : Int32)), .val (.ref ca), .val (.int (3 : Int32)), .val (.int (0 : Int32)), .val (.ref wH)] [(.int (3 : Int32)), (.int (1 : Int32))])) _
    refine XS.icmpYes X51.here hx rfl (pc0 := 25) (pc' := 31) rfl (hb hby d1_25) rfl (feq (by decide : ¬ ((1 : Int32) = (3 : Int32)))).2 (by decide) (by decide) ?_
    show Steps p.tables e below (T51.setTop (mkF m 31 #[.val (.int (3 : Int32)), .val (.ref ca), .val (.int (3 : Int32)), .val (.int (0 : Int32)), .val (.ref wH)] [])) _
    exact kt
  have pre54 : ∀ t, Steps p.tables e below (T51.setTop (mkF m 11 #[.val (.int (3 : Int32)), .val (.ref ca), .val (.int (3 : Int32)), .val (.int ((0 : Int32) + (1 : Int32))), .val (.ref wH)] [(.int (3 : Int32)), (.int ((0 : Int32) + (1 : Int32)))])) t → Steps p.tables e below (s₁.setTop (entryFrame m #[(.int (3 : Int32))] 5)) t := fun t kt => by
    refine pre53 _ ?_
    show Steps p.tables e below (T51.setTop (mkF m 31 #[.val (.int (3 : Int32)), .val (.ref ca), .val (.int (3 : Int32)), .val (.int (0 : Int32)), .val (.ref wH)] [])) _
    refine XS.iinc X51.here hx rfl (hb hby d1_31) rfl (l' := #[.val (.int (3 : Int32)), .val (.ref ca), .val (.int (3 : Int32)), .val (.int ((0 : Int32) + (1 : Int32))), .val (.ref wH)]) rfl ?_
    show Steps p.tables e below (T51.setTop (mkF m 34 #[.val (.int (3 : Int32)), .val (.ref ca), .val (.int (3 : Int32)), .val (.int ((0 : Int32) + (1 : Int32))), .val (.ref wH)] [])) _
    refine XS.goto X51.here hx rfl (pc0 := 34) (pc' := 9) rfl (hb hby d1_34) (by decide) (by decide) ?_
    show Steps p.tables e below (T51.setTop (mkF m 9 #[.val (.int (3 : Int32)), .val (.ref ca), .val (.int (3 : Int32)), .val (.int ((0 : Int32) + (1 : Int32))), .val (.ref wH)] [])) _
    refine XS.iloadN X51.here hx rfl (hb hby d1_9) rfl ?_
    show Steps p.tables e below (T51.setTop (mkF m 10 #[.val (.int (3 : Int32)), .val (.ref ca), .val (.int (3 : Int32)), .val (.int ((0 : Int32) + (1 : Int32))), .val (.ref wH)] [(.int ((0 : Int32) + (1 : Int32)))])) _
    refine XS.iloadN X51.here hx rfl (hb hby d1_10) rfl ?_
    show Steps p.tables e below (T51.setTop (mkF m 11 #[.val (.int (3 : Int32)), .val (.ref ca), .val (.int (3 : Int32)), .val (.int ((0 : Int32) + (1 : Int32))), .val (.ref wH)] [(.int (3 : Int32)), (.int ((0 : Int32) + (1 : Int32)))])) _
    exact kt
  have pre55 : ∀ t, Steps p.tables e below (T51.setTop (mkF m 14 #[.val (.int (3 : Int32)), .val (.ref ca), .val (.int (3 : Int32)), .val (.int ((0 : Int32) + (1 : Int32))), .val (.ref wH)] [])) t → Steps p.tables e below (s₁.setTop (entryFrame m #[(.int (3 : Int32))] 5)) t := fun t kt => by
    refine pre54 _ ?_
    show Steps p.tables e below (T51.setTop (mkF m 11 #[.val (.int (3 : Int32)), .val (.ref ca), .val (.int (3 : Int32)), .val (.int ((0 : Int32) + (1 : Int32))), .val (.ref wH)] [(.int (3 : Int32)), (.int ((0 : Int32) + (1 : Int32)))])) _
    refine XS.icmpNo X51.here hx rfl (hb hby d1_11) rfl (tlt (by decide : ((0 : Int32) + (1 : Int32)) < (3 : Int32))).2.1 ?_
    show Steps p.tables e below (T51.setTop (mkF m 14 #[.val (.int (3 : Int32)), .val (.ref ca), .val (.int (3 : Int32)), .val (.int ((0 : Int32) + (1 : Int32))), .val (.ref wH)] [])) _
    exact kt
  have pre56 : ∀ t, Steps p.tables e below (T51.setTop (mkF m 16 #[.val (.int (3 : Int32)), .val (.ref ca), .val (.int (3 : Int32)), .val (.int ((0 : Int32) + (1 : Int32))), .val (.ref wH)] [(.int ((0 : Int32) + (1 : Int32))), (.ref ca)])) t → Steps p.tables e below (s₁.setTop (entryFrame m #[(.int (3 : Int32))] 5)) t := fun t kt => by
    refine pre55 _ ?_
    show Steps p.tables e below (T51.setTop (mkF m 14 #[.val (.int (3 : Int32)), .val (.ref ca), .val (.int (3 : Int32)), .val (.int ((0 : Int32) + (1 : Int32))), .val (.ref wH)] [])) _
    refine XS.aloadN X51.here hx rfl (hb hby d1_14) rfl rfl ?_
    show Steps p.tables e below (T51.setTop (mkF m 15 #[.val (.int (3 : Int32)), .val (.ref ca), .val (.int (3 : Int32)), .val (.int ((0 : Int32) + (1 : Int32))), .val (.ref wH)] [(.ref ca)])) _
    refine XS.iloadN X51.here hx rfl (hb hby d1_15) rfl ?_
    show Steps p.tables e below (T51.setTop (mkF m 16 #[.val (.int (3 : Int32)), .val (.ref ca), .val (.int (3 : Int32)), .val (.int ((0 : Int32) + (1 : Int32))), .val (.ref wH)] [(.int ((0 : Int32) + (1 : Int32))), (.ref ca)])) _
    exact kt
  have Vo_ca_57 := Vc42
  obtain ⟨cl_ca_57, Ar_ca_57, q_ca_57, S_ca_57, M_ca_57, H_ca_57, G_ca_57⟩ := Vo_ca_57
  have hin57 : ¬ (((0 : Int32) + (1 : Int32)) < 0 ∨ cl_ca_57.slots.size ≤ (((0 : Int32) + (1 : Int32))).toNatClampNeg) := inb_of S_ca_57 ⟨by decide, by decide⟩
  have hat57 : cl_ca_57.slots[(((0 : Int32) + (1 : Int32))).toNatClampNeg]? = some (.ref wS) := H_ca_57.at hin57 rfl
  have pre58 : ∀ t, Steps p.tables e below (T51.setTop (mkF m 17 #[.val (.int (3 : Int32)), .val (.ref ca), .val (.int (3 : Int32)), .val (.int ((0 : Int32) + (1 : Int32))), .val (.ref wH)] [(.ref wS)])) t → Steps p.tables e below (s₁.setTop (entryFrame m #[(.int (3 : Int32))] 5)) t := fun t kt => pre56 _ (X51.aaload hx (j := ((0 : Int32) + (1 : Int32))) (v := (.ref wS)) (by rw [e51]; exact Ar_ca_57.1) (State.isArrayOf_alike hZ.alike Ar_ca_57.2.1) rfl Ar_ca_57.2.2 hin57 hat57 (g := (mkF m 16 #[.val (.int (3 : Int32)), .val (.ref ca), .val (.int (3 : Int32)), .val (.int ((0 : Int32) + (1 : Int32))), .val (.ref wH)] [(.int ((0 : Int32) + (1 : Int32))), (.ref ca)])) rfl rfl (hb hby d1_16) t kt)
  have pre59 : ∀ t, Steps p.tables e below (T51.setTop (mkF m 21 #[.val (.int (3 : Int32)), .val (.ref ca), .val (.int (3 : Int32)), .val (.int ((0 : Int32) + (1 : Int32))), .val (.ref wS)] [(.ref wS)])) t → Steps p.tables e below (s₁.setTop (entryFrame m #[(.int (3 : Int32))] 5)) t := fun t kt => by
    refine pre58 _ ?_
    show Steps p.tables e below (T51.setTop (mkF m 17 #[.val (.int (3 : Int32)), .val (.ref ca), .val (.int (3 : Int32)), .val (.int ((0 : Int32) + (1 : Int32))), .val (.ref wH)] [(.ref wS)])) _
    refine XS.astore X51.here hx rfl (hb hby d1_17) rfl rfl (l' := #[.val (.int (3 : Int32)), .val (.ref ca), .val (.int (3 : Int32)), .val (.int ((0 : Int32) + (1 : Int32))), .val (.ref wS)]) rfl ?_
    show Steps p.tables e below (T51.setTop (mkF m 19 #[.val (.int (3 : Int32)), .val (.ref ca), .val (.int (3 : Int32)), .val (.int ((0 : Int32) + (1 : Int32))), .val (.ref wS)] [])) _
    refine XS.aload X51.here hx rfl (hb hby d1_19) rfl rfl ?_
    show Steps p.tables e below (T51.setTop (mkF m 21 #[.val (.int (3 : Int32)), .val (.ref ca), .val (.int (3 : Int32)), .val (.int ((0 : Int32) + (1 : Int32))), .val (.ref wS)] [(.ref wS)])) _
    exact kt
  obtain ⟨T60, X60, e60, st60⟩ := getF X51 hx hZ hown (host := "") (Or.inl (hw _ (List.mem_of_getElem? (i := 22) rfl))) Via.refl e51 F42_1 (g := (mkF m 21 #[.val (.int (3 : Int32)), .val (.ref ca), .val (.int (3 : Int32)), .val (.int ((0 : Int32) + (1 : Int32))), .val (.ref wS)] [(.ref wS)])) rfl rfl (hb hby d1_21)
  have pre60 : ∀ t, Steps p.tables e below (T60.setTop (mkF m 24 #[.val (.int (3 : Int32)), .val (.ref ca), .val (.int (3 : Int32)), .val (.int ((0 : Int32) + (1 : Int32))), .val (.ref wS)] [(.int (2 : Int32))])) t → Steps p.tables e below (s₁.setTop (entryFrame m #[(.int (3 : Int32))] 5)) t := fun t kt => pre59 _ (st60 t kt)
  have pre61 : ∀ t, Steps p.tables e below (T60.setTop (mkF m 25 #[.val (.int (3 : Int32)), .val (.ref ca), .val (.int (3 : Int32)), .val (.int ((0 : Int32) + (1 : Int32))), .val (.ref wS)] [(.int (3 : Int32)), (.int (2 : Int32))])) t → Steps p.tables e below (s₁.setTop (entryFrame m #[(.int (3 : Int32))] 5)) t := fun t kt => by
    refine pre60 _ ?_
    show Steps p.tables e below (T60.setTop (mkF m 24 #[.val (.int (3 : Int32)), .val (.ref ca), .val (.int (3 : Int32)), .val (.int ((0 : Int32) + (1 : Int32))), .val (.ref wS)] [(.int (2 : Int32))])) _
    refine XS.iloadN X60.here hx rfl (hb hby d1_24) rfl ?_
    show Steps p.tables e below (T60.setTop (mkF m 25 #[.val (.int (3 : Int32)), .val (.ref ca), .val (.int (3 : Int32)), .val (.int ((0 : Int32) + (1 : Int32))), .val (.ref wS)] [(.int (3 : Int32)), (.int (2 : Int32))])) _
    exact kt
  have pre62 : ∀ t, Steps p.tables e below (T60.setTop (mkF m 31 #[.val (.int (3 : Int32)), .val (.ref ca), .val (.int (3 : Int32)), .val (.int ((0 : Int32) + (1 : Int32))), .val (.ref wS)] [])) t → Steps p.tables e below (s₁.setTop (entryFrame m #[(.int (3 : Int32))] 5)) t := fun t kt => by
    refine pre61 _ ?_
    show Steps p.tables e below (T60.setTop (mkF m 25 #[.val (.int (3 : Int32)), .val (.ref ca), .val (.int (3 : Int32)), .val (.int ((0 : Int32) + (1 : Int32))), .val (.ref wS)] [(.int (3 : Int32)), (.int (2 : Int32))])) _
    refine XS.icmpYes X60.here hx rfl (pc0 := 25) (pc' := 31) rfl (hb hby d1_25) rfl (feq (by decide : ¬ ((2 : Int32) = (3 : Int32)))).2 (by decide) (by decide) ?_
    show Steps p.tables e below (T60.setTop (mkF m 31 #[.val (.int (3 : Int32)), .val (.ref ca), .val (.int (3 : Int32)), .val (.int ((0 : Int32) + (1 : Int32))), .val (.ref wS)] [])) _
    exact kt
  have pre63 : ∀ t, Steps p.tables e below (T60.setTop (mkF m 11 #[.val (.int (3 : Int32)), .val (.ref ca), .val (.int (3 : Int32)), .val (.int (((0 : Int32) + (1 : Int32)) + (1 : Int32))), .val (.ref wS)] [(.int (3 : Int32)), (.int (((0 : Int32) + (1 : Int32)) + (1 : Int32)))])) t → Steps p.tables e below (s₁.setTop (entryFrame m #[(.int (3 : Int32))] 5)) t := fun t kt => by
    refine pre62 _ ?_
    show Steps p.tables e below (T60.setTop (mkF m 31 #[.val (.int (3 : Int32)), .val (.ref ca), .val (.int (3 : Int32)), .val (.int ((0 : Int32) + (1 : Int32))), .val (.ref wS)] [])) _
    refine XS.iinc X60.here hx rfl (hb hby d1_31) rfl (l' := #[.val (.int (3 : Int32)), .val (.ref ca), .val (.int (3 : Int32)), .val (.int (((0 : Int32) + (1 : Int32)) + (1 : Int32))), .val (.ref wS)]) rfl ?_
    show Steps p.tables e below (T60.setTop (mkF m 34 #[.val (.int (3 : Int32)), .val (.ref ca), .val (.int (3 : Int32)), .val (.int (((0 : Int32) + (1 : Int32)) + (1 : Int32))), .val (.ref wS)] [])) _
    refine XS.goto X60.here hx rfl (pc0 := 34) (pc' := 9) rfl (hb hby d1_34) (by decide) (by decide) ?_
    show Steps p.tables e below (T60.setTop (mkF m 9 #[.val (.int (3 : Int32)), .val (.ref ca), .val (.int (3 : Int32)), .val (.int (((0 : Int32) + (1 : Int32)) + (1 : Int32))), .val (.ref wS)] [])) _
    refine XS.iloadN X60.here hx rfl (hb hby d1_9) rfl ?_
    show Steps p.tables e below (T60.setTop (mkF m 10 #[.val (.int (3 : Int32)), .val (.ref ca), .val (.int (3 : Int32)), .val (.int (((0 : Int32) + (1 : Int32)) + (1 : Int32))), .val (.ref wS)] [(.int (((0 : Int32) + (1 : Int32)) + (1 : Int32)))])) _
    refine XS.iloadN X60.here hx rfl (hb hby d1_10) rfl ?_
    show Steps p.tables e below (T60.setTop (mkF m 11 #[.val (.int (3 : Int32)), .val (.ref ca), .val (.int (3 : Int32)), .val (.int (((0 : Int32) + (1 : Int32)) + (1 : Int32))), .val (.ref wS)] [(.int (3 : Int32)), (.int (((0 : Int32) + (1 : Int32)) + (1 : Int32)))])) _
    exact kt
  have pre64 : ∀ t, Steps p.tables e below (T60.setTop (mkF m 14 #[.val (.int (3 : Int32)), .val (.ref ca), .val (.int (3 : Int32)), .val (.int (((0 : Int32) + (1 : Int32)) + (1 : Int32))), .val (.ref wS)] [])) t → Steps p.tables e below (s₁.setTop (entryFrame m #[(.int (3 : Int32))] 5)) t := fun t kt => by
    refine pre63 _ ?_
    show Steps p.tables e below (T60.setTop (mkF m 11 #[.val (.int (3 : Int32)), .val (.ref ca), .val (.int (3 : Int32)), .val (.int (((0 : Int32) + (1 : Int32)) + (1 : Int32))), .val (.ref wS)] [(.int (3 : Int32)), (.int (((0 : Int32) + (1 : Int32)) + (1 : Int32)))])) _
    refine XS.icmpNo X60.here hx rfl (hb hby d1_11) rfl (tlt (by decide : (((0 : Int32) + (1 : Int32)) + (1 : Int32)) < (3 : Int32))).2.1 ?_
    show Steps p.tables e below (T60.setTop (mkF m 14 #[.val (.int (3 : Int32)), .val (.ref ca), .val (.int (3 : Int32)), .val (.int (((0 : Int32) + (1 : Int32)) + (1 : Int32))), .val (.ref wS)] [])) _
    exact kt
  have pre65 : ∀ t, Steps p.tables e below (T60.setTop (mkF m 16 #[.val (.int (3 : Int32)), .val (.ref ca), .val (.int (3 : Int32)), .val (.int (((0 : Int32) + (1 : Int32)) + (1 : Int32))), .val (.ref wS)] [(.int (((0 : Int32) + (1 : Int32)) + (1 : Int32))), (.ref ca)])) t → Steps p.tables e below (s₁.setTop (entryFrame m #[(.int (3 : Int32))] 5)) t := fun t kt => by
    refine pre64 _ ?_
    show Steps p.tables e below (T60.setTop (mkF m 14 #[.val (.int (3 : Int32)), .val (.ref ca), .val (.int (3 : Int32)), .val (.int (((0 : Int32) + (1 : Int32)) + (1 : Int32))), .val (.ref wS)] [])) _
    refine XS.aloadN X60.here hx rfl (hb hby d1_14) rfl rfl ?_
    show Steps p.tables e below (T60.setTop (mkF m 15 #[.val (.int (3 : Int32)), .val (.ref ca), .val (.int (3 : Int32)), .val (.int (((0 : Int32) + (1 : Int32)) + (1 : Int32))), .val (.ref wS)] [(.ref ca)])) _
    refine XS.iloadN X60.here hx rfl (hb hby d1_15) rfl ?_
    show Steps p.tables e below (T60.setTop (mkF m 16 #[.val (.int (3 : Int32)), .val (.ref ca), .val (.int (3 : Int32)), .val (.int (((0 : Int32) + (1 : Int32)) + (1 : Int32))), .val (.ref wS)] [(.int (((0 : Int32) + (1 : Int32)) + (1 : Int32))), (.ref ca)])) _
    exact kt
  have Vo_ca_66 := Vc42
  obtain ⟨cl_ca_66, Ar_ca_66, q_ca_66, S_ca_66, M_ca_66, H_ca_66, G_ca_66⟩ := Vo_ca_66
  have hin66 : ¬ ((((0 : Int32) + (1 : Int32)) + (1 : Int32)) < 0 ∨ cl_ca_66.slots.size ≤ ((((0 : Int32) + (1 : Int32)) + (1 : Int32))).toNatClampNeg) := inb_of S_ca_66 ⟨by decide, by decide⟩
  have hat66 : cl_ca_66.slots[((((0 : Int32) + (1 : Int32)) + (1 : Int32))).toNatClampNeg]? = some (.ref wR) := H_ca_66.at hin66 rfl
  have pre67 : ∀ t, Steps p.tables e below (T60.setTop (mkF m 17 #[.val (.int (3 : Int32)), .val (.ref ca), .val (.int (3 : Int32)), .val (.int (((0 : Int32) + (1 : Int32)) + (1 : Int32))), .val (.ref wS)] [(.ref wR)])) t → Steps p.tables e below (s₁.setTop (entryFrame m #[(.int (3 : Int32))] 5)) t := fun t kt => pre65 _ (X60.aaload hx (j := (((0 : Int32) + (1 : Int32)) + (1 : Int32))) (v := (.ref wR)) (by rw [e60]; exact Ar_ca_66.1) (State.isArrayOf_alike hZ.alike Ar_ca_66.2.1) rfl Ar_ca_66.2.2 hin66 hat66 (g := (mkF m 16 #[.val (.int (3 : Int32)), .val (.ref ca), .val (.int (3 : Int32)), .val (.int (((0 : Int32) + (1 : Int32)) + (1 : Int32))), .val (.ref wS)] [(.int (((0 : Int32) + (1 : Int32)) + (1 : Int32))), (.ref ca)])) rfl rfl (hb hby d1_16) t kt)
  have pre68 : ∀ t, Steps p.tables e below (T60.setTop (mkF m 21 #[.val (.int (3 : Int32)), .val (.ref ca), .val (.int (3 : Int32)), .val (.int (((0 : Int32) + (1 : Int32)) + (1 : Int32))), .val (.ref wR)] [(.ref wR)])) t → Steps p.tables e below (s₁.setTop (entryFrame m #[(.int (3 : Int32))] 5)) t := fun t kt => by
    refine pre67 _ ?_
    show Steps p.tables e below (T60.setTop (mkF m 17 #[.val (.int (3 : Int32)), .val (.ref ca), .val (.int (3 : Int32)), .val (.int (((0 : Int32) + (1 : Int32)) + (1 : Int32))), .val (.ref wS)] [(.ref wR)])) _
    refine XS.astore X60.here hx rfl (hb hby d1_17) rfl rfl (l' := #[.val (.int (3 : Int32)), .val (.ref ca), .val (.int (3 : Int32)), .val (.int (((0 : Int32) + (1 : Int32)) + (1 : Int32))), .val (.ref wR)]) rfl ?_
    show Steps p.tables e below (T60.setTop (mkF m 19 #[.val (.int (3 : Int32)), .val (.ref ca), .val (.int (3 : Int32)), .val (.int (((0 : Int32) + (1 : Int32)) + (1 : Int32))), .val (.ref wR)] [])) _
    refine XS.aload X60.here hx rfl (hb hby d1_19) rfl rfl ?_
    show Steps p.tables e below (T60.setTop (mkF m 21 #[.val (.int (3 : Int32)), .val (.ref ca), .val (.int (3 : Int32)), .val (.int (((0 : Int32) + (1 : Int32)) + (1 : Int32))), .val (.ref wR)] [(.ref wR)])) _
    exact kt
  obtain ⟨T69, X69, e69, st69⟩ := getF X60 hx hZ hown (host := "") (Or.inl (hw _ (List.mem_of_getElem? (i := 22) rfl))) Via.refl e60 F42_2 (g := (mkF m 21 #[.val (.int (3 : Int32)), .val (.ref ca), .val (.int (3 : Int32)), .val (.int (((0 : Int32) + (1 : Int32)) + (1 : Int32))), .val (.ref wR)] [(.ref wR)])) rfl rfl (hb hby d1_21)
  have pre69 : ∀ t, Steps p.tables e below (T69.setTop (mkF m 24 #[.val (.int (3 : Int32)), .val (.ref ca), .val (.int (3 : Int32)), .val (.int (((0 : Int32) + (1 : Int32)) + (1 : Int32))), .val (.ref wR)] [(.int (3 : Int32))])) t → Steps p.tables e below (s₁.setTop (entryFrame m #[(.int (3 : Int32))] 5)) t := fun t kt => pre68 _ (st69 t kt)
  have pre70 : ∀ t, Steps p.tables e below (T69.setTop (mkF m 25 #[.val (.int (3 : Int32)), .val (.ref ca), .val (.int (3 : Int32)), .val (.int (((0 : Int32) + (1 : Int32)) + (1 : Int32))), .val (.ref wR)] [(.int (3 : Int32)), (.int (3 : Int32))])) t → Steps p.tables e below (s₁.setTop (entryFrame m #[(.int (3 : Int32))] 5)) t := fun t kt => by
    refine pre69 _ ?_
    show Steps p.tables e below (T69.setTop (mkF m 24 #[.val (.int (3 : Int32)), .val (.ref ca), .val (.int (3 : Int32)), .val (.int (((0 : Int32) + (1 : Int32)) + (1 : Int32))), .val (.ref wR)] [(.int (3 : Int32))])) _
    refine XS.iloadN X69.here hx rfl (hb hby d1_24) rfl ?_
    show Steps p.tables e below (T69.setTop (mkF m 25 #[.val (.int (3 : Int32)), .val (.ref ca), .val (.int (3 : Int32)), .val (.int (((0 : Int32) + (1 : Int32)) + (1 : Int32))), .val (.ref wR)] [(.int (3 : Int32)), (.int (3 : Int32))])) _
    exact kt
  have pre71 : ∀ t, Steps p.tables e below (T69.setTop (mkF m 28 #[.val (.int (3 : Int32)), .val (.ref ca), .val (.int (3 : Int32)), .val (.int (((0 : Int32) + (1 : Int32)) + (1 : Int32))), .val (.ref wR)] [])) t → Steps p.tables e below (s₁.setTop (entryFrame m #[(.int (3 : Int32))] 5)) t := fun t kt => by
    refine pre70 _ ?_
    show Steps p.tables e below (T69.setTop (mkF m 25 #[.val (.int (3 : Int32)), .val (.ref ca), .val (.int (3 : Int32)), .val (.int (((0 : Int32) + (1 : Int32)) + (1 : Int32))), .val (.ref wR)] [(.int (3 : Int32)), (.int (3 : Int32))])) _
    refine XS.icmpNo X69.here hx rfl (hb hby d1_25) rfl (teq (by decide : (3 : Int32) = (3 : Int32))).2 ?_
    show Steps p.tables e below (T69.setTop (mkF m 28 #[.val (.int (3 : Int32)), .val (.ref ca), .val (.int (3 : Int32)), .val (.int (((0 : Int32) + (1 : Int32)) + (1 : Int32))), .val (.ref wR)] [])) _
    exact kt
  have pre72 : ∀ t, Steps p.tables e below (T69.setTop (mkF m 30 #[.val (.int (3 : Int32)), .val (.ref ca), .val (.int (3 : Int32)), .val (.int (((0 : Int32) + (1 : Int32)) + (1 : Int32))), .val (.ref wR)] [(.ref wR)])) t → Steps p.tables e below (s₁.setTop (entryFrame m #[(.int (3 : Int32))] 5)) t := fun t kt => by
    refine pre71 _ ?_
    show Steps p.tables e below (T69.setTop (mkF m 28 #[.val (.int (3 : Int32)), .val (.ref ca), .val (.int (3 : Int32)), .val (.int (((0 : Int32) + (1 : Int32)) + (1 : Int32))), .val (.ref wR)] [])) _
    refine XS.aload X69.here hx rfl (hb hby d1_28) rfl rfl ?_
    show Steps p.tables e below (T69.setTop (mkF m 30 #[.val (.int (3 : Int32)), .val (.ref ca), .val (.int (3 : Int32)), .val (.int (((0 : Int32) + (1 : Int32)) + (1 : Int32))), .val (.ref wR)] [(.ref wR)])) _
    exact kt
  obtain ⟨fs, hr, hrun, hended, hW, hsame⟩ := X69.leave (v := some (.ref wR)) (fun h => by rw [Bd.returns] at h; cases h)
  refine ⟨_, _, pre72 _ ?_, hrun, hended, _, _, rfl, ?_, ⟨_, rfl⟩, hW, hsame.mono (by decide) (by decide)⟩
  · show Steps p.tables e below (T69.setTop (mkF m 30 #[.val (.int (3 : Int32)), .val (.ref ca), .val (.int (3 : Int32)), .val (.int (((0 : Int32) + (1 : Int32)) + (1 : Int32))), .val (.ref wR)] [(.ref wR)])) _
    jvm_step X69.here [X69.here.top, hx, (hb hby d1_30), X69.method', Bd.returns, Value.isRef, FieldType.isReference]
    first | (intro acts; rw [hr _ acts rfl rfl rfl]) | rw [hr _ _ rfl rfl rfl]
    exact Steps.refl _
  · show Q1_3 (.ref wR) h0 n0 _ T69.heap _
    rw [e69]
    exact ⟨rfl, N42, K42⟩
def Q1_n (wo : Value) (h0 : Heap) (n0 : Nat) (v : Option Value) (h : Heap) (L : List Loc) : Prop := v = some wo ∧ Fr n0 L ∧ Keep h0 h []
set_option maxRecDepth 65536 in
set_option maxHeartbeats 40000000 in
theorem rm1_n (l : Launch) (Z : State) (aZ : Array Value) (hw : ∀ d ∈ tables_1, d.before aZ Z = true) (ws : List Jvm.Cond) (p0 : Int32) (wV wH wS wR : Addr) (kv : ClassId) (h0 : Heap) (n0 : Nat) (Z0 : n0 ≤ h0.size) (S_V : Sta Z h0 "com/example/leafweight/leafweight/BlockType" "$VALUES" "[Lcom/example/leafweight/leafweight/BlockType;" (.ref wV)) (V_V : Arv Z h0 wV kv (.object "com/example/leafweight/leafweight/BlockType") (3 : Int32) [(.ref wH), (.ref wS), (.ref wR)] .null) (E_V : Exa Z h0 wV "[Lcom/example/leafweight/leafweight/BlockType;") (F_1 : Fld Z h0 wH "com/example/leafweight/leafweight/BlockType" "code" "I" (.int (1 : Int32))) (F_2 : Fld Z h0 wS "com/example/leafweight/leafweight/BlockType" "code" "I" (.int (2 : Int32))) (F_3 : Fld Z h0 wR "com/example/leafweight/leafweight/BlockType" "code" "I" (.int (3 : Int32))) (n1 : ¬ p0 = (1 : Int32)) (n2 : ¬ p0 = (2 : Int32)) (n3 : ¬ p0 = (3 : Int32)) :
    MetFree l (⟨"com/example/leafweight/leafweight/BlockType", "of", "(I)Lcom/example/leafweight/leafweight/BlockType;"⟩ : MethodName) (head1 (Jvm.Cond.code (⟨"com/example/leafweight/leafweight/BlockType", "of", "(I)Lcom/example/leafweight/leafweight/BlockType;"⟩ : MethodName) prog_15_method_7_code 5 (some (.object "com/example/leafweight/leafweight/BlockType")) :: ws) ({ frames := 2, cells := 1, slots := 3, locals := 25 } : Room)) (fun a U => a = #[(.int p0)] ∧ Z.Warmed39 U.vm ∧ U.heap = h0) (fun _ _ _ _ _ => True) (fun _ U oc U' => ∃ v L, oc = .returned v ∧ Q1_n .null h0 n0 v U'.heap L ∧ FrameEnd U oc U' L ({ frames := 2, cells := 1, slots := 3, locals := 25 } : Room).cells ({ frames := 2, cells := 1, slots := 3, locals := 25 } : Room).slots) := by
  refine MetFree.of_bodySF (plainFor_of_name pn_2) hisR ?_
  intro p e s m args below meth c s₁ Bd hml0 hP hK
  obtain ⟨rfl, hZ, hh⟩ := hP
  have hx := Bd.exec
  have hby := Bd.bytes
  have hml : c.maxLocals = 5 := hml0
  have hown : s.vm.findClass "com/example/leafweight/leafweight/BlockType" = some m.cls := findClass_of_methodNamed Bd.named
  have hnm := (name_of_methodNamed Bd.named Bd.method).1
  have X0 : Stand p l e ({ frames := 2, cells := 1, slots := 3, locals := 25 } : Room) s m #[(.int p0)] below meth c s₁ [] 0 0 := Stand.of_body Bd
  have e0 : s₁.heap = h0 := by rw [← hh, Bd.state]; rfl
  have N0 := Fr.nil n0
  have pre0 : ∀ t, Steps p.tables e below (s₁.setTop (mkF m 0 #[.val (.int p0), .unset, .unset, .unset, .unset] [])) t → Steps p.tables e below (s₁.setTop (entryFrame m #[(.int p0)] 5)) t := fun t kt => castTop (ef_1 m p0) kt
  obtain ⟨v74, _, ⟨T74, L74, k74, n74⟩, -, X74, ⟨Lc74, hQ74, l74, y74, z74⟩, st74⟩ := Jvm.LawKit.callS X0 hx (y := (⟨"com/example/leafweight/leafweight/BlockType", "values", "()[Lcom/example/leafweight/leafweight/BlockType;"⟩ : MethodName)) hown (mvT hZ (hw _ (List.mem_of_getElem? (i := 4) rfl))) (mvT hZ (hw _ (List.mem_of_getElem? (i := 5) rfl))) (mvT hZ (hw _ (List.mem_of_getElem? (i := 2) rfl))) (mvT hZ (hw _ (List.mem_of_getElem? (i := 6) rfl))) (by decide) (backOf (W := 0) (rm2 l Z aZ hw []  wV wH wS wR kv h0 n0 Z0 S_V V_V E_V) hZ (hw _ (List.mem_of_getElem? (i := 6) rfl)) (hw _ (List.mem_of_getElem? (i := 2) rfl)) (by decide) (by decide)) (g := (mkF m 0 #[.val (.int p0), .unset, .unset, .unset, .unset] [])) rfl (by rw [hml]; rfl) (argsL := []) (rest := []) (lenOf pd_1 rfl) rfl (by show 2 * 0 + _ ≤ _; exact Nat.le_of_eq rfl) (hb hby d1_0) (fun _ _ => ⟨rfl, e0, (by decide : 0 + 1 ≤ _), (by decide : 0 + 3 ≤ _)⟩)
  dsimp only [Pt.U, Pt.locs, Pt.cells, Pt.slots] at X74 l74 y74 z74 st74 hQ74
  rw [l74, y74, z74] at X74
  clear l74 y74 z74
  obtain ⟨ca, vq74, N74q, Kc74, sz_ca, Vc74⟩ := hQ74
  rw [vq74] at st74
  have N74 := Fr.app N0 N74q
  have pre74 : ∀ t, Steps p.tables e below (T74.setTop (mkF m 3 #[.val (.int p0), .unset, .unset, .unset, .unset] [(.ref ca)])) t → Steps p.tables e below (s₁.setTop (entryFrame m #[(.int p0)] 5)) t := fun t kt => pre0 _ (st74 t kt)
  have Zs74 : n0 ≤ T74.heap.size := Nat.le_trans Z0 Kc74.1
  have F74_0 := F_1.keep Kc74 (by simp)
  have F74_1 := F_2.keep Kc74 (by simp)
  have F74_2 := F_3.keep Kc74 (by simp)
  have K0 := Keep.refl h0 []
  have K74 := K0.trans Kc74 (by simp)
  have pre75 : ∀ t, Steps p.tables e below (T74.setTop (mkF m 5 #[.val (.int p0), .val (.ref ca), .unset, .unset, .unset] [(.ref ca)])) t → Steps p.tables e below (s₁.setTop (entryFrame m #[(.int p0)] 5)) t := fun t kt => by
    refine pre74 _ ?_
    show Steps p.tables e below (T74.setTop (mkF m 3 #[.val (.int p0), .unset, .unset, .unset, .unset] [(.ref ca)])) _
    refine XS.astoreN X74.here hx rfl (hb hby d1_3) rfl rfl (l' := #[.val (.int p0), .val (.ref ca), .unset, .unset, .unset]) rfl ?_
    show Steps p.tables e below (T74.setTop (mkF m 4 #[.val (.int p0), .val (.ref ca), .unset, .unset, .unset] [])) _
    refine XS.aloadN X74.here hx rfl (hb hby d1_4) rfl rfl ?_
    show Steps p.tables e below (T74.setTop (mkF m 5 #[.val (.int p0), .val (.ref ca), .unset, .unset, .unset] [(.ref ca)])) _
    exact kt
  have Vo_ca_76 := Vc74
  obtain ⟨cl_ca_76, Ar_ca_76, q_ca_76, S_ca_76, M_ca_76, H_ca_76, G_ca_76⟩ := Vo_ca_76
  have pre76 : ∀ t, Steps p.tables e below (T74.setTop (mkF m 6 #[.val (.int p0), .val (.ref ca), .unset, .unset, .unset] [(.int (3 : Int32))])) t → Steps p.tables e below (s₁.setTop (entryFrame m #[(.int p0)] 5)) t := fun t kt => by
    refine pre75 _ ?_
    refine X74.arraylength hx Ar_ca_76.1 (State.isArrayOf_alike hZ.alike Ar_ca_76.2.1) (g := (mkF m 5 #[.val (.int p0), .val (.ref ca), .unset, .unset, .unset] [(.ref ca)])) rfl rfl (hb hby d1_5) _ ?_
    rw [len_of S_ca_76 M_ca_76]
    exact kt
  have pre77 : ∀ t, Steps p.tables e below (T74.setTop (mkF m 11 #[.val (.int p0), .val (.ref ca), .val (.int (3 : Int32)), .val (.int (0 : Int32)), .unset] [(.int (3 : Int32)), (.int (0 : Int32))])) t → Steps p.tables e below (s₁.setTop (entryFrame m #[(.int p0)] 5)) t := fun t kt => by
    refine pre76 _ ?_
    show Steps p.tables e below (T74.setTop (mkF m 6 #[.val (.int p0), .val (.ref ca), .unset, .unset, .unset] [(.int (3 : Int32))])) _
    refine XS.istoreN X74.here hx rfl (hb hby d1_6) rfl (l' := #[.val (.int p0), .val (.ref ca), .val (.int (3 : Int32)), .unset, .unset]) rfl ?_
    show Steps p.tables e below (T74.setTop (mkF m 7 #[.val (.int p0), .val (.ref ca), .val (.int (3 : Int32)), .unset, .unset] [])) _
    refine XS.iconst X74.here hx rfl (hb hby d1_7) ?_
    show Steps p.tables e below (T74.setTop (mkF m 8 #[.val (.int p0), .val (.ref ca), .val (.int (3 : Int32)), .unset, .unset] [(.int (0 : Int32))])) _
    refine XS.istoreN X74.here hx rfl (hb hby d1_8) rfl (l' := #[.val (.int p0), .val (.ref ca), .val (.int (3 : Int32)), .val (.int (0 : Int32)), .unset]) rfl ?_
    show Steps p.tables e below (T74.setTop (mkF m 9 #[.val (.int p0), .val (.ref ca), .val (.int (3 : Int32)), .val (.int (0 : Int32)), .unset] [])) _
    refine XS.iloadN X74.here hx rfl (hb hby d1_9) rfl ?_
    show Steps p.tables e below (T74.setTop (mkF m 10 #[.val (.int p0), .val (.ref ca), .val (.int (3 : Int32)), .val (.int (0 : Int32)), .unset] [(.int (0 : Int32))])) _
    refine XS.iloadN X74.here hx rfl (hb hby d1_10) rfl ?_
    show Steps p.tables e below (T74.setTop (mkF m 11 #[.val (.int p0), .val (.ref ca), .val (.int (3 : Int32)), .val (.int (0 : Int32)), .unset] [(.int (3 : Int32)), (.int (0 : Int32))])) _
    exact kt
  have pre78 : ∀ t, Steps p.tables e below (T74.setTop (mkF m 14 #[.val (.int p0), .val (.ref ca), .val (.int (3 : Int32)), .val (.int (0 : Int32)), .unset] [])) t → Steps p.tables e below (s₁.setTop (entryFrame m #[(.int p0)] 5)) t := fun t kt => by
    refine pre77 _ ?_
    show Steps p.tables e below (T74.setTop (mkF m 11 #[.val (.int p0), .val (.ref ca), .val (.int (3 : Int32)), .val (.int (0 : Int32)), .unset] [(.int (3 : Int32)), (.int (0 : Int32))])) _
    refine XS.icmpNo X74.here hx rfl (hb hby d1_11) rfl (tlt (by decide : (0 : Int32) < (3 : Int32))).2.1 ?_
    show Steps p.tables e below (T74.setTop (mkF m 14 #[.val (.int p0), .val (.ref ca), .val (.int (3 : Int32)), .val (.int (0 : Int32)), .unset] [])) _
    exact kt
  have pre79 : ∀ t, Steps p.tables e below (T74.setTop (mkF m 16 #[.val (.int p0), .val (.ref ca), .val (.int (3 : Int32)), .val (.int (0 : Int32)), .unset] [(.int (0 : Int32)), (.ref ca)])) t → Steps p.tables e below (s₁.setTop (entryFrame m #[(.int p0)] 5)) t := fun t kt => by
    refine pre78 _ ?_
    show Steps p.tables e below (T74.setTop (mkF m 14 #[.val (.int p0), .val (.ref ca), .val (.int (3 : Int32)), .val (.int (0 : Int32)), .unset] [])) _
    refine XS.aloadN X74.here hx rfl (hb hby d1_14) rfl rfl ?_
    show Steps p.tables e below (T74.setTop (mkF m 15 #[.val (.int p0), .val (.ref ca), .val (.int (3 : Int32)), .val (.int (0 : Int32)), .unset] [(.ref ca)])) _
    refine XS.iloadN X74.here hx rfl (hb hby d1_15) rfl ?_
    show Steps p.tables e below (T74.setTop (mkF m 16 #[.val (.int p0), .val (.ref ca), .val (.int (3 : Int32)), .val (.int (0 : Int32)), .unset] [(.int (0 : Int32)), (.ref ca)])) _
    exact kt
  have Vo_ca_80 := Vc74
  obtain ⟨cl_ca_80, Ar_ca_80, q_ca_80, S_ca_80, M_ca_80, H_ca_80, G_ca_80⟩ := Vo_ca_80
  have hin80 : ¬ ((0 : Int32) < 0 ∨ cl_ca_80.slots.size ≤ ((0 : Int32)).toNatClampNeg) := inb_of S_ca_80 ⟨by decide, by decide⟩
  have hat80 : cl_ca_80.slots[((0 : Int32)).toNatClampNeg]? = some (.ref wH) := H_ca_80.at hin80 rfl
  have pre81 : ∀ t, Steps p.tables e below (T74.setTop (mkF m 17 #[.val (.int p0), .val (.ref ca), .val (.int (3 : Int32)), .val (.int (0 : Int32)), .unset] [(.ref wH)])) t → Steps p.tables e below (s₁.setTop (entryFrame m #[(.int p0)] 5)) t := fun t kt => pre79 _ (X74.aaload hx (j := (0 : Int32)) (v := (.ref wH)) Ar_ca_80.1 (State.isArrayOf_alike hZ.alike Ar_ca_80.2.1) rfl Ar_ca_80.2.2 hin80 hat80 (g := (mkF m 16 #[.val (.int p0), .val (.ref ca), .val (.int (3 : Int32)), .val (.int (0 : Int32)), .unset] [(.int (0 : Int32)), (.ref ca)])) rfl rfl (hb hby d1_16) t kt)
  have pre82 : ∀ t, Steps p.tables e below (T74.setTop (mkF m 21 #[.val (.int p0), .val (.ref ca), .val (.int (3 : Int32)), .val (.int (0 : Int32)), .val (.ref wH)] [(.ref wH)])) t → Steps p.tables e below (s₁.setTop (entryFrame m #[(.int p0)] 5)) t := fun t kt => by
    refine pre81 _ ?_
    show Steps p.tables e below (T74.setTop (mkF m 17 #[.val (.int p0), .val (.ref ca), .val (.int (3 : Int32)), .val (.int (0 : Int32)), .unset] [(.ref wH)])) _
    refine XS.astore X74.here hx rfl (hb hby d1_17) rfl rfl (l' := #[.val (.int p0), .val (.ref ca), .val (.int (3 : Int32)), .val (.int (0 : Int32)), .val (.ref wH)]) rfl ?_
    show Steps p.tables e below (T74.setTop (mkF m 19 #[.val (.int p0), .val (.ref ca), .val (.int (3 : Int32)), .val (.int (0 : Int32)), .val (.ref wH)] [])) _
    refine XS.aload X74.here hx rfl (hb hby d1_19) rfl rfl ?_
    show Steps p.tables e below (T74.setTop (mkF m 21 #[.val (.int p0), .val (.ref ca), .val (.int (3 : Int32)), .val (.int (0 : Int32)), .val (.ref wH)] [(.ref wH)])) _
    exact kt
  obtain ⟨T83, X83, e83, st83⟩ := getF X74 hx hZ hown (host := "") (Or.inl (hw _ (List.mem_of_getElem? (i := 22) rfl))) Via.refl rfl F74_0 (g := (mkF m 21 #[.val (.int p0), .val (.ref ca), .val (.int (3 : Int32)), .val (.int (0 : Int32)), .val (.ref wH)] [(.ref wH)])) rfl rfl (hb hby d1_21)
  have pre83 : ∀ t, Steps p.tables e below (T83.setTop (mkF m 24 #[.val (.int p0), .val (.ref ca), .val (.int (3 : Int32)), .val (.int (0 : Int32)), .val (.ref wH)] [(.int (1 : Int32))])) t → Steps p.tables e below (s₁.setTop (entryFrame m #[(.int p0)] 5)) t := fun t kt => pre82 _ (st83 t kt)
  have pre84 : ∀ t, Steps p.tables e below (T83.setTop (mkF m 25 #[.val (.int p0), .val (.ref ca), .val (.int (3 : Int32)), .val (.int (0 : Int32)), .val (.ref wH)] [(.int p0), (.int (1 : Int32))])) t → Steps p.tables e below (s₁.setTop (entryFrame m #[(.int p0)] 5)) t := fun t kt => by
    refine pre83 _ ?_
    show Steps p.tables e below (T83.setTop (mkF m 24 #[.val (.int p0), .val (.ref ca), .val (.int (3 : Int32)), .val (.int (0 : Int32)), .val (.ref wH)] [(.int (1 : Int32))])) _
    refine XS.iloadN X83.here hx rfl (hb hby d1_24) rfl ?_
    show Steps p.tables e below (T83.setTop (mkF m 25 #[.val (.int p0), .val (.ref ca), .val (.int (3 : Int32)), .val (.int (0 : Int32)), .val (.ref wH)] [(.int p0), (.int (1 : Int32))])) _
    exact kt
  have pre85 : ∀ t, Steps p.tables e below (T83.setTop (mkF m 31 #[.val (.int p0), .val (.ref ca), .val (.int (3 : Int32)), .val (.int (0 : Int32)), .val (.ref wH)] [])) t → Steps p.tables e below (s₁.setTop (entryFrame m #[(.int p0)] 5)) t := fun t kt => by
    refine pre84 _ ?_
    show Steps p.tables e below (T83.setTop (mkF m 25 #[.val (.int p0), .val (.ref ca), .val (.int (3 : Int32)), .val (.int (0 : Int32)), .val (.ref wH)] [(.int p0), (.int (1 : Int32))])) _
    refine XS.icmpYes X83.here hx rfl (pc0 := 25) (pc' := 31) rfl (hb hby d1_25) rfl (feq (fun q => n1 q.symm)).2 (by decide) (by decide) ?_
    show Steps p.tables e below (T83.setTop (mkF m 31 #[.val (.int p0), .val (.ref ca), .val (.int (3 : Int32)), .val (.int (0 : Int32)), .val (.ref wH)] [])) _
    exact kt
  have pre86 : ∀ t, Steps p.tables e below (T83.setTop (mkF m 11 #[.val (.int p0), .val (.ref ca), .val (.int (3 : Int32)), .val (.int ((0 : Int32) + (1 : Int32))), .val (.ref wH)] [(.int (3 : Int32)), (.int ((0 : Int32) + (1 : Int32)))])) t → Steps p.tables e below (s₁.setTop (entryFrame m #[(.int p0)] 5)) t := fun t kt => by
    refine pre85 _ ?_
    show Steps p.tables e below (T83.setTop (mkF m 31 #[.val (.int p0), .val (.ref ca), .val (.int (3 : Int32)), .val (.int (0 : Int32)), .val (.ref wH)] [])) _
    refine XS.iinc X83.here hx rfl (hb hby d1_31) rfl (l' := #[.val (.int p0), .val (.ref ca), .val (.int (3 : Int32)), .val (.int ((0 : Int32) + (1 : Int32))), .val (.ref wH)]) rfl ?_
    show Steps p.tables e below (T83.setTop (mkF m 34 #[.val (.int p0), .val (.ref ca), .val (.int (3 : Int32)), .val (.int ((0 : Int32) + (1 : Int32))), .val (.ref wH)] [])) _
    refine XS.goto X83.here hx rfl (pc0 := 34) (pc' := 9) rfl (hb hby d1_34) (by decide) (by decide) ?_
    show Steps p.tables e below (T83.setTop (mkF m 9 #[.val (.int p0), .val (.ref ca), .val (.int (3 : Int32)), .val (.int ((0 : Int32) + (1 : Int32))), .val (.ref wH)] [])) _
    refine XS.iloadN X83.here hx rfl (hb hby d1_9) rfl ?_
    show Steps p.tables e below (T83.setTop (mkF m 10 #[.val (.int p0), .val (.ref ca), .val (.int (3 : Int32)), .val (.int ((0 : Int32) + (1 : Int32))), .val (.ref wH)] [(.int ((0 : Int32) + (1 : Int32)))])) _
    refine XS.iloadN X83.here hx rfl (hb hby d1_10) rfl ?_
    show Steps p.tables e below (T83.setTop (mkF m 11 #[.val (.int p0), .val (.ref ca), .val (.int (3 : Int32)), .val (.int ((0 : Int32) + (1 : Int32))), .val (.ref wH)] [(.int (3 : Int32)), (.int ((0 : Int32) + (1 : Int32)))])) _
    exact kt
  have pre87 : ∀ t, Steps p.tables e below (T83.setTop (mkF m 14 #[.val (.int p0), .val (.ref ca), .val (.int (3 : Int32)), .val (.int ((0 : Int32) + (1 : Int32))), .val (.ref wH)] [])) t → Steps p.tables e below (s₁.setTop (entryFrame m #[(.int p0)] 5)) t := fun t kt => by
    refine pre86 _ ?_
    show Steps p.tables e below (T83.setTop (mkF m 11 #[.val (.int p0), .val (.ref ca), .val (.int (3 : Int32)), .val (.int ((0 : Int32) + (1 : Int32))), .val (.ref wH)] [(.int (3 : Int32)), (.int ((0 : Int32) + (1 : Int32)))])) _
    refine XS.icmpNo X83.here hx rfl (hb hby d1_11) rfl (tlt (by decide : ((0 : Int32) + (1 : Int32)) < (3 : Int32))).2.1 ?_
    show Steps p.tables e below (T83.setTop (mkF m 14 #[.val (.int p0), .val (.ref ca), .val (.int (3 : Int32)), .val (.int ((0 : Int32) + (1 : Int32))), .val (.ref wH)] [])) _
    exact kt
  have pre88 : ∀ t, Steps p.tables e below (T83.setTop (mkF m 16 #[.val (.int p0), .val (.ref ca), .val (.int (3 : Int32)), .val (.int ((0 : Int32) + (1 : Int32))), .val (.ref wH)] [(.int ((0 : Int32) + (1 : Int32))), (.ref ca)])) t → Steps p.tables e below (s₁.setTop (entryFrame m #[(.int p0)] 5)) t := fun t kt => by
    refine pre87 _ ?_
    show Steps p.tables e below (T83.setTop (mkF m 14 #[.val (.int p0), .val (.ref ca), .val (.int (3 : Int32)), .val (.int ((0 : Int32) + (1 : Int32))), .val (.ref wH)] [])) _
    refine XS.aloadN X83.here hx rfl (hb hby d1_14) rfl rfl ?_
    show Steps p.tables e below (T83.setTop (mkF m 15 #[.val (.int p0), .val (.ref ca), .val (.int (3 : Int32)), .val (.int ((0 : Int32) + (1 : Int32))), .val (.ref wH)] [(.ref ca)])) _
    refine XS.iloadN X83.here hx rfl (hb hby d1_15) rfl ?_
    show Steps p.tables e below (T83.setTop (mkF m 16 #[.val (.int p0), .val (.ref ca), .val (.int (3 : Int32)), .val (.int ((0 : Int32) + (1 : Int32))), .val (.ref wH)] [(.int ((0 : Int32) + (1 : Int32))), (.ref ca)])) _
    exact kt
  have Vo_ca_89 := Vc74
  obtain ⟨cl_ca_89, Ar_ca_89, q_ca_89, S_ca_89, M_ca_89, H_ca_89, G_ca_89⟩ := Vo_ca_89
  have hin89 : ¬ (((0 : Int32) + (1 : Int32)) < 0 ∨ cl_ca_89.slots.size ≤ (((0 : Int32) + (1 : Int32))).toNatClampNeg) := inb_of S_ca_89 ⟨by decide, by decide⟩
  have hat89 : cl_ca_89.slots[(((0 : Int32) + (1 : Int32))).toNatClampNeg]? = some (.ref wS) := H_ca_89.at hin89 rfl
  have pre90 : ∀ t, Steps p.tables e below (T83.setTop (mkF m 17 #[.val (.int p0), .val (.ref ca), .val (.int (3 : Int32)), .val (.int ((0 : Int32) + (1 : Int32))), .val (.ref wH)] [(.ref wS)])) t → Steps p.tables e below (s₁.setTop (entryFrame m #[(.int p0)] 5)) t := fun t kt => pre88 _ (X83.aaload hx (j := ((0 : Int32) + (1 : Int32))) (v := (.ref wS)) (by rw [e83]; exact Ar_ca_89.1) (State.isArrayOf_alike hZ.alike Ar_ca_89.2.1) rfl Ar_ca_89.2.2 hin89 hat89 (g := (mkF m 16 #[.val (.int p0), .val (.ref ca), .val (.int (3 : Int32)), .val (.int ((0 : Int32) + (1 : Int32))), .val (.ref wH)] [(.int ((0 : Int32) + (1 : Int32))), (.ref ca)])) rfl rfl (hb hby d1_16) t kt)
  have pre91 : ∀ t, Steps p.tables e below (T83.setTop (mkF m 21 #[.val (.int p0), .val (.ref ca), .val (.int (3 : Int32)), .val (.int ((0 : Int32) + (1 : Int32))), .val (.ref wS)] [(.ref wS)])) t → Steps p.tables e below (s₁.setTop (entryFrame m #[(.int p0)] 5)) t := fun t kt => by
    refine pre90 _ ?_
    show Steps p.tables e below (T83.setTop (mkF m 17 #[.val (.int p0), .val (.ref ca), .val (.int (3 : Int32)), .val (.int ((0 : Int32) + (1 : Int32))), .val (.ref wH)] [(.ref wS)])) _
    refine XS.astore X83.here hx rfl (hb hby d1_17) rfl rfl (l' := #[.val (.int p0), .val (.ref ca), .val (.int (3 : Int32)), .val (.int ((0 : Int32) + (1 : Int32))), .val (.ref wS)]) rfl ?_
    show Steps p.tables e below (T83.setTop (mkF m 19 #[.val (.int p0), .val (.ref ca), .val (.int (3 : Int32)), .val (.int ((0 : Int32) + (1 : Int32))), .val (.ref wS)] [])) _
    refine XS.aload X83.here hx rfl (hb hby d1_19) rfl rfl ?_
    show Steps p.tables e below (T83.setTop (mkF m 21 #[.val (.int p0), .val (.ref ca), .val (.int (3 : Int32)), .val (.int ((0 : Int32) + (1 : Int32))), .val (.ref wS)] [(.ref wS)])) _
    exact kt
  obtain ⟨T92, X92, e92, st92⟩ := getF X83 hx hZ hown (host := "") (Or.inl (hw _ (List.mem_of_getElem? (i := 22) rfl))) Via.refl e83 F74_1 (g := (mkF m 21 #[.val (.int p0), .val (.ref ca), .val (.int (3 : Int32)), .val (.int ((0 : Int32) + (1 : Int32))), .val (.ref wS)] [(.ref wS)])) rfl rfl (hb hby d1_21)
  have pre92 : ∀ t, Steps p.tables e below (T92.setTop (mkF m 24 #[.val (.int p0), .val (.ref ca), .val (.int (3 : Int32)), .val (.int ((0 : Int32) + (1 : Int32))), .val (.ref wS)] [(.int (2 : Int32))])) t → Steps p.tables e below (s₁.setTop (entryFrame m #[(.int p0)] 5)) t := fun t kt => pre91 _ (st92 t kt)
  have pre93 : ∀ t, Steps p.tables e below (T92.setTop (mkF m 25 #[.val (.int p0), .val (.ref ca), .val (.int (3 : Int32)), .val (.int ((0 : Int32) + (1 : Int32))), .val (.ref wS)] [(.int p0), (.int (2 : Int32))])) t → Steps p.tables e below (s₁.setTop (entryFrame m #[(.int p0)] 5)) t := fun t kt => by
    refine pre92 _ ?_
    show Steps p.tables e below (T92.setTop (mkF m 24 #[.val (.int p0), .val (.ref ca), .val (.int (3 : Int32)), .val (.int ((0 : Int32) + (1 : Int32))), .val (.ref wS)] [(.int (2 : Int32))])) _
    refine XS.iloadN X92.here hx rfl (hb hby d1_24) rfl ?_
    show Steps p.tables e below (T92.setTop (mkF m 25 #[.val (.int p0), .val (.ref ca), .val (.int (3 : Int32)), .val (.int ((0 : Int32) + (1 : Int32))), .val (.ref wS)] [(.int p0), (.int (2 : Int32))])) _
    exact kt
  have pre94 : ∀ t, Steps p.tables e below (T92.setTop (mkF m 31 #[.val (.int p0), .val (.ref ca), .val (.int (3 : Int32)), .val (.int ((0 : Int32) + (1 : Int32))), .val (.ref wS)] [])) t → Steps p.tables e below (s₁.setTop (entryFrame m #[(.int p0)] 5)) t := fun t kt => by
    refine pre93 _ ?_
    show Steps p.tables e below (T92.setTop (mkF m 25 #[.val (.int p0), .val (.ref ca), .val (.int (3 : Int32)), .val (.int ((0 : Int32) + (1 : Int32))), .val (.ref wS)] [(.int p0), (.int (2 : Int32))])) _
    refine XS.icmpYes X92.here hx rfl (pc0 := 25) (pc' := 31) rfl (hb hby d1_25) rfl (feq (fun q => n2 q.symm)).2 (by decide) (by decide) ?_
    show Steps p.tables e below (T92.setTop (mkF m 31 #[.val (.int p0), .val (.ref ca), .val (.int (3 : Int32)), .val (.int ((0 : Int32) + (1 : Int32))), .val (.ref wS)] [])) _
    exact kt
  have pre95 : ∀ t, Steps p.tables e below (T92.setTop (mkF m 11 #[.val (.int p0), .val (.ref ca), .val (.int (3 : Int32)), .val (.int (((0 : Int32) + (1 : Int32)) + (1 : Int32))), .val (.ref wS)] [(.int (3 : Int32)), (.int (((0 : Int32) + (1 : Int32)) + (1 : Int32)))])) t → Steps p.tables e below (s₁.setTop (entryFrame m #[(.int p0)] 5)) t := fun t kt => by
    refine pre94 _ ?_
    show Steps p.tables e below (T92.setTop (mkF m 31 #[.val (.int p0), .val (.ref ca), .val (.int (3 : Int32)), .val (.int ((0 : Int32) + (1 : Int32))), .val (.ref wS)] [])) _
    refine XS.iinc X92.here hx rfl (hb hby d1_31) rfl (l' := #[.val (.int p0), .val (.ref ca), .val (.int (3 : Int32)), .val (.int (((0 : Int32) + (1 : Int32)) + (1 : Int32))), .val (.ref wS)]) rfl ?_
    show Steps p.tables e below (T92.setTop (mkF m 34 #[.val (.int p0), .val (.ref ca), .val (.int (3 : Int32)), .val (.int (((0 : Int32) + (1 : Int32)) + (1 : Int32))), .val (.ref wS)] [])) _
    refine XS.goto X92.here hx rfl (pc0 := 34) (pc' := 9) rfl (hb hby d1_34) (by decide) (by decide) ?_
    show Steps p.tables e below (T92.setTop (mkF m 9 #[.val (.int p0), .val (.ref ca), .val (.int (3 : Int32)), .val (.int (((0 : Int32) + (1 : Int32)) + (1 : Int32))), .val (.ref wS)] [])) _
    refine XS.iloadN X92.here hx rfl (hb hby d1_9) rfl ?_
    show Steps p.tables e below (T92.setTop (mkF m 10 #[.val (.int p0), .val (.ref ca), .val (.int (3 : Int32)), .val (.int (((0 : Int32) + (1 : Int32)) + (1 : Int32))), .val (.ref wS)] [(.int (((0 : Int32) + (1 : Int32)) + (1 : Int32)))])) _
    refine XS.iloadN X92.here hx rfl (hb hby d1_10) rfl ?_
    show Steps p.tables e below (T92.setTop (mkF m 11 #[.val (.int p0), .val (.ref ca), .val (.int (3 : Int32)), .val (.int (((0 : Int32) + (1 : Int32)) + (1 : Int32))), .val (.ref wS)] [(.int (3 : Int32)), (.int (((0 : Int32) + (1 : Int32)) + (1 : Int32)))])) _
    exact kt
  have pre96 : ∀ t, Steps p.tables e below (T92.setTop (mkF m 14 #[.val (.int p0), .val (.ref ca), .val (.int (3 : Int32)), .val (.int (((0 : Int32) + (1 : Int32)) + (1 : Int32))), .val (.ref wS)] [])) t → Steps p.tables e below (s₁.setTop (entryFrame m #[(.int p0)] 5)) t := fun t kt => by
    refine pre95 _ ?_
    show Steps p.tables e below (T92.setTop (mkF m 11 #[.val (.int p0), .val (.ref ca), .val (.int (3 : Int32)), .val (.int (((0 : Int32) + (1 : Int32)) + (1 : Int32))), .val (.ref wS)] [(.int (3 : Int32)), (.int (((0 : Int32) + (1 : Int32)) + (1 : Int32)))])) _
    refine XS.icmpNo X92.here hx rfl (hb hby d1_11) rfl (tlt (by decide : (((0 : Int32) + (1 : Int32)) + (1 : Int32)) < (3 : Int32))).2.1 ?_
    show Steps p.tables e below (T92.setTop (mkF m 14 #[.val (.int p0), .val (.ref ca), .val (.int (3 : Int32)), .val (.int (((0 : Int32) + (1 : Int32)) + (1 : Int32))), .val (.ref wS)] [])) _
    exact kt
  have pre97 : ∀ t, Steps p.tables e below (T92.setTop (mkF m 16 #[.val (.int p0), .val (.ref ca), .val (.int (3 : Int32)), .val (.int (((0 : Int32) + (1 : Int32)) + (1 : Int32))), .val (.ref wS)] [(.int (((0 : Int32) + (1 : Int32)) + (1 : Int32))), (.ref ca)])) t → Steps p.tables e below (s₁.setTop (entryFrame m #[(.int p0)] 5)) t := fun t kt => by
    refine pre96 _ ?_
    show Steps p.tables e below (T92.setTop (mkF m 14 #[.val (.int p0), .val (.ref ca), .val (.int (3 : Int32)), .val (.int (((0 : Int32) + (1 : Int32)) + (1 : Int32))), .val (.ref wS)] [])) _
    refine XS.aloadN X92.here hx rfl (hb hby d1_14) rfl rfl ?_
    show Steps p.tables e below (T92.setTop (mkF m 15 #[.val (.int p0), .val (.ref ca), .val (.int (3 : Int32)), .val (.int (((0 : Int32) + (1 : Int32)) + (1 : Int32))), .val (.ref wS)] [(.ref ca)])) _
    refine XS.iloadN X92.here hx rfl (hb hby d1_15) rfl ?_
    show Steps p.tables e below (T92.setTop (mkF m 16 #[.val (.int p0), .val (.ref ca), .val (.int (3 : Int32)), .val (.int (((0 : Int32) + (1 : Int32)) + (1 : Int32))), .val (.ref wS)] [(.int (((0 : Int32) + (1 : Int32)) + (1 : Int32))), (.ref ca)])) _
    exact kt
  have Vo_ca_98 := Vc74
  obtain ⟨cl_ca_98, Ar_ca_98, q_ca_98, S_ca_98, M_ca_98, H_ca_98, G_ca_98⟩ := Vo_ca_98
  have hin98 : ¬ ((((0 : Int32) + (1 : Int32)) + (1 : Int32)) < 0 ∨ cl_ca_98.slots.size ≤ ((((0 : Int32) + (1 : Int32)) + (1 : Int32))).toNatClampNeg) := inb_of S_ca_98 ⟨by decide, by decide⟩
  have hat98 : cl_ca_98.slots[((((0 : Int32) + (1 : Int32)) + (1 : Int32))).toNatClampNeg]? = some (.ref wR) := H_ca_98.at hin98 rfl
  have pre99 : ∀ t, Steps p.tables e below (T92.setTop (mkF m 17 #[.val (.int p0), .val (.ref ca), .val (.int (3 : Int32)), .val (.int (((0 : Int32) + (1 : Int32)) + (1 : Int32))), .val (.ref wS)] [(.ref wR)])) t → Steps p.tables e below (s₁.setTop (entryFrame m #[(.int p0)] 5)) t := fun t kt => pre97 _ (X92.aaload hx (j := (((0 : Int32) + (1 : Int32)) + (1 : Int32))) (v := (.ref wR)) (by rw [e92]; exact Ar_ca_98.1) (State.isArrayOf_alike hZ.alike Ar_ca_98.2.1) rfl Ar_ca_98.2.2 hin98 hat98 (g := (mkF m 16 #[.val (.int p0), .val (.ref ca), .val (.int (3 : Int32)), .val (.int (((0 : Int32) + (1 : Int32)) + (1 : Int32))), .val (.ref wS)] [(.int (((0 : Int32) + (1 : Int32)) + (1 : Int32))), (.ref ca)])) rfl rfl (hb hby d1_16) t kt)
  have pre100 : ∀ t, Steps p.tables e below (T92.setTop (mkF m 21 #[.val (.int p0), .val (.ref ca), .val (.int (3 : Int32)), .val (.int (((0 : Int32) + (1 : Int32)) + (1 : Int32))), .val (.ref wR)] [(.ref wR)])) t → Steps p.tables e below (s₁.setTop (entryFrame m #[(.int p0)] 5)) t := fun t kt => by
    refine pre99 _ ?_
    show Steps p.tables e below (T92.setTop (mkF m 17 #[.val (.int p0), .val (.ref ca), .val (.int (3 : Int32)), .val (.int (((0 : Int32) + (1 : Int32)) + (1 : Int32))), .val (.ref wS)] [(.ref wR)])) _
    refine XS.astore X92.here hx rfl (hb hby d1_17) rfl rfl (l' := #[.val (.int p0), .val (.ref ca), .val (.int (3 : Int32)), .val (.int (((0 : Int32) + (1 : Int32)) + (1 : Int32))), .val (.ref wR)]) rfl ?_
    show Steps p.tables e below (T92.setTop (mkF m 19 #[.val (.int p0), .val (.ref ca), .val (.int (3 : Int32)), .val (.int (((0 : Int32) + (1 : Int32)) + (1 : Int32))), .val (.ref wR)] [])) _
    refine XS.aload X92.here hx rfl (hb hby d1_19) rfl rfl ?_
    show Steps p.tables e below (T92.setTop (mkF m 21 #[.val (.int p0), .val (.ref ca), .val (.int (3 : Int32)), .val (.int (((0 : Int32) + (1 : Int32)) + (1 : Int32))), .val (.ref wR)] [(.ref wR)])) _
    exact kt
  obtain ⟨T101, X101, e101, st101⟩ := getF X92 hx hZ hown (host := "") (Or.inl (hw _ (List.mem_of_getElem? (i := 22) rfl))) Via.refl e92 F74_2 (g := (mkF m 21 #[.val (.int p0), .val (.ref ca), .val (.int (3 : Int32)), .val (.int (((0 : Int32) + (1 : Int32)) + (1 : Int32))), .val (.ref wR)] [(.ref wR)])) rfl rfl (hb hby d1_21)
  have pre101 : ∀ t, Steps p.tables e below (T101.setTop (mkF m 24 #[.val (.int p0), .val (.ref ca), .val (.int (3 : Int32)), .val (.int (((0 : Int32) + (1 : Int32)) + (1 : Int32))), .val (.ref wR)] [(.int (3 : Int32))])) t → Steps p.tables e below (s₁.setTop (entryFrame m #[(.int p0)] 5)) t := fun t kt => pre100 _ (st101 t kt)
  have pre102 : ∀ t, Steps p.tables e below (T101.setTop (mkF m 25 #[.val (.int p0), .val (.ref ca), .val (.int (3 : Int32)), .val (.int (((0 : Int32) + (1 : Int32)) + (1 : Int32))), .val (.ref wR)] [(.int p0), (.int (3 : Int32))])) t → Steps p.tables e below (s₁.setTop (entryFrame m #[(.int p0)] 5)) t := fun t kt => by
    refine pre101 _ ?_
    show Steps p.tables e below (T101.setTop (mkF m 24 #[.val (.int p0), .val (.ref ca), .val (.int (3 : Int32)), .val (.int (((0 : Int32) + (1 : Int32)) + (1 : Int32))), .val (.ref wR)] [(.int (3 : Int32))])) _
    refine XS.iloadN X101.here hx rfl (hb hby d1_24) rfl ?_
    show Steps p.tables e below (T101.setTop (mkF m 25 #[.val (.int p0), .val (.ref ca), .val (.int (3 : Int32)), .val (.int (((0 : Int32) + (1 : Int32)) + (1 : Int32))), .val (.ref wR)] [(.int p0), (.int (3 : Int32))])) _
    exact kt
  have pre103 : ∀ t, Steps p.tables e below (T101.setTop (mkF m 31 #[.val (.int p0), .val (.ref ca), .val (.int (3 : Int32)), .val (.int (((0 : Int32) + (1 : Int32)) + (1 : Int32))), .val (.ref wR)] [])) t → Steps p.tables e below (s₁.setTop (entryFrame m #[(.int p0)] 5)) t := fun t kt => by
    refine pre102 _ ?_
    show Steps p.tables e below (T101.setTop (mkF m 25 #[.val (.int p0), .val (.ref ca), .val (.int (3 : Int32)), .val (.int (((0 : Int32) + (1 : Int32)) + (1 : Int32))), .val (.ref wR)] [(.int p0), (.int (3 : Int32))])) _
    refine XS.icmpYes X101.here hx rfl (pc0 := 25) (pc' := 31) rfl (hb hby d1_25) rfl (feq (fun q => n3 q.symm)).2 (by decide) (by decide) ?_
    show Steps p.tables e below (T101.setTop (mkF m 31 #[.val (.int p0), .val (.ref ca), .val (.int (3 : Int32)), .val (.int (((0 : Int32) + (1 : Int32)) + (1 : Int32))), .val (.ref wR)] [])) _
    exact kt
  have pre104 : ∀ t, Steps p.tables e below (T101.setTop (mkF m 11 #[.val (.int p0), .val (.ref ca), .val (.int (3 : Int32)), .val (.int ((((0 : Int32) + (1 : Int32)) + (1 : Int32)) + (1 : Int32))), .val (.ref wR)] [(.int (3 : Int32)), (.int ((((0 : Int32) + (1 : Int32)) + (1 : Int32)) + (1 : Int32)))])) t → Steps p.tables e below (s₁.setTop (entryFrame m #[(.int p0)] 5)) t := fun t kt => by
    refine pre103 _ ?_
    show Steps p.tables e below (T101.setTop (mkF m 31 #[.val (.int p0), .val (.ref ca), .val (.int (3 : Int32)), .val (.int (((0 : Int32) + (1 : Int32)) + (1 : Int32))), .val (.ref wR)] [])) _
    refine XS.iinc X101.here hx rfl (hb hby d1_31) rfl (l' := #[.val (.int p0), .val (.ref ca), .val (.int (3 : Int32)), .val (.int ((((0 : Int32) + (1 : Int32)) + (1 : Int32)) + (1 : Int32))), .val (.ref wR)]) rfl ?_
    show Steps p.tables e below (T101.setTop (mkF m 34 #[.val (.int p0), .val (.ref ca), .val (.int (3 : Int32)), .val (.int ((((0 : Int32) + (1 : Int32)) + (1 : Int32)) + (1 : Int32))), .val (.ref wR)] [])) _
    refine XS.goto X101.here hx rfl (pc0 := 34) (pc' := 9) rfl (hb hby d1_34) (by decide) (by decide) ?_
    show Steps p.tables e below (T101.setTop (mkF m 9 #[.val (.int p0), .val (.ref ca), .val (.int (3 : Int32)), .val (.int ((((0 : Int32) + (1 : Int32)) + (1 : Int32)) + (1 : Int32))), .val (.ref wR)] [])) _
    refine XS.iloadN X101.here hx rfl (hb hby d1_9) rfl ?_
    show Steps p.tables e below (T101.setTop (mkF m 10 #[.val (.int p0), .val (.ref ca), .val (.int (3 : Int32)), .val (.int ((((0 : Int32) + (1 : Int32)) + (1 : Int32)) + (1 : Int32))), .val (.ref wR)] [(.int ((((0 : Int32) + (1 : Int32)) + (1 : Int32)) + (1 : Int32)))])) _
    refine XS.iloadN X101.here hx rfl (hb hby d1_10) rfl ?_
    show Steps p.tables e below (T101.setTop (mkF m 11 #[.val (.int p0), .val (.ref ca), .val (.int (3 : Int32)), .val (.int ((((0 : Int32) + (1 : Int32)) + (1 : Int32)) + (1 : Int32))), .val (.ref wR)] [(.int (3 : Int32)), (.int ((((0 : Int32) + (1 : Int32)) + (1 : Int32)) + (1 : Int32)))])) _
    exact kt
  have pre105 : ∀ t, Steps p.tables e below (T101.setTop (mkF m 37 #[.val (.int p0), .val (.ref ca), .val (.int (3 : Int32)), .val (.int ((((0 : Int32) + (1 : Int32)) + (1 : Int32)) + (1 : Int32))), .val (.ref wR)] [])) t → Steps p.tables e below (s₁.setTop (entryFrame m #[(.int p0)] 5)) t := fun t kt => by
    refine pre104 _ ?_
    show Steps p.tables e below (T101.setTop (mkF m 11 #[.val (.int p0), .val (.ref ca), .val (.int (3 : Int32)), .val (.int ((((0 : Int32) + (1 : Int32)) + (1 : Int32)) + (1 : Int32))), .val (.ref wR)] [(.int (3 : Int32)), (.int ((((0 : Int32) + (1 : Int32)) + (1 : Int32)) + (1 : Int32)))])) _
    refine XS.icmpYes X101.here hx rfl (pc0 := 11) (pc' := 37) rfl (hb hby d1_11) rfl (flt (by decide : ¬ (((((0 : Int32) + (1 : Int32)) + (1 : Int32)) + (1 : Int32)) < (3 : Int32)))).2.1 (by decide) (by decide) ?_
    show Steps p.tables e below (T101.setTop (mkF m 37 #[.val (.int p0), .val (.ref ca), .val (.int (3 : Int32)), .val (.int ((((0 : Int32) + (1 : Int32)) + (1 : Int32)) + (1 : Int32))), .val (.ref wR)] [])) _
    exact kt
  have pre106 : ∀ t, Steps p.tables e below (T101.setTop (mkF m 38 #[.val (.int p0), .val (.ref ca), .val (.int (3 : Int32)), .val (.int ((((0 : Int32) + (1 : Int32)) + (1 : Int32)) + (1 : Int32))), .val (.ref wR)] [.null])) t → Steps p.tables e below (s₁.setTop (entryFrame m #[(.int p0)] 5)) t := fun t kt => by
    refine pre105 _ ?_
    show Steps p.tables e below (T101.setTop (mkF m 37 #[.val (.int p0), .val (.ref ca), .val (.int (3 : Int32)), .val (.int ((((0 : Int32) + (1 : Int32)) + (1 : Int32)) + (1 : Int32))), .val (.ref wR)] [])) _
    refine XS.aconstNull X101.here hx rfl (hb hby d1_37) ?_
    show Steps p.tables e below (T101.setTop (mkF m 38 #[.val (.int p0), .val (.ref ca), .val (.int (3 : Int32)), .val (.int ((((0 : Int32) + (1 : Int32)) + (1 : Int32)) + (1 : Int32))), .val (.ref wR)] [.null])) _
    exact kt
  obtain ⟨fs, hr, hrun, hended, hW, hsame⟩ := X101.leave (v := some .null) (fun h => by rw [Bd.returns] at h; cases h)
  refine ⟨_, _, pre106 _ ?_, hrun, hended, _, _, rfl, ?_, ⟨_, rfl⟩, hW, hsame.mono (by decide) (by decide)⟩
  · show Steps p.tables e below (T101.setTop (mkF m 38 #[.val (.int p0), .val (.ref ca), .val (.int (3 : Int32)), .val (.int ((((0 : Int32) + (1 : Int32)) + (1 : Int32)) + (1 : Int32))), .val (.ref wR)] [.null])) _
    jvm_step X101.here [X101.here.top, hx, (hb hby d1_38), X101.method', Bd.returns, Value.isRef, FieldType.isReference]
    first | (intro acts; rw [hr _ acts rfl rfl rfl]) | rw [hr _ _ rfl rfl rfl]
    exact Steps.refl _
  · show Q1_n .null h0 n0 _ T101.heap _
    rw [e101]
    exact ⟨rfl, N74, K74⟩
def own_c (x f : Int32) : Int32 := if (f &&& (1 : Int32)) = (0 : Int32) then x else ((x &&& (7 : Int32)) - (2 : Int32))
theorem pn_0 : plainName "com/example/leafweight/leafweight/BlockTypeOfPinLaw" = true := by first | (simp [plainName, overriddenIn]; done) | decide +kernel
theorem ef_0 (m : MethodId) (x0 : Int32) (x1 : Int32) : entryFrame m #[(.int x0), (.int x1)] maxLocals = mkF m 0 #[.val (.int x0), .val (.int x1), .unset, .unset, .unset] [] := by first | (simp [entryFrame, mkF, argsToLocals, Value.category, maxLocals]; done) | rfl
def Q0 (xv : Int32) (fv : Int32) (h0 : Heap) (n0 : Nat) (v : Option Value) (h : Heap) (L : List Loc) : Prop := v = some (.int (1 : Int32)) ∧ Fr n0 L
set_option maxRecDepth 65536 in
set_option maxHeartbeats 40000000 in
theorem rm0 (l : Launch) (Z : State) (aZ : Array Value) (hw : ∀ d ∈ tables_1, d.before aZ Z = true) (ws : List Jvm.Cond) (xv : Int32) (fv : Int32) (wV wH wS wR : Addr) (kv : ClassId) (h0 : Heap) (n0 : Nat) (Z0 : n0 ≤ h0.size) (S_V : Sta Z h0 "com/example/leafweight/leafweight/BlockType" "$VALUES" "[Lcom/example/leafweight/leafweight/BlockType;" (.ref wV)) (V_V : Arv Z h0 wV kv (.object "com/example/leafweight/leafweight/BlockType") (3 : Int32) [(.ref wH), (.ref wS), (.ref wR)] .null) (E_V : Exa Z h0 wV "[Lcom/example/leafweight/leafweight/BlockType;") (F_1 : Fld Z h0 wH "com/example/leafweight/leafweight/BlockType" "code" "I" (.int (1 : Int32))) (F_2 : Fld Z h0 wS "com/example/leafweight/leafweight/BlockType" "code" "I" (.int (2 : Int32))) (F_3 : Fld Z h0 wR "com/example/leafweight/leafweight/BlockType" "code" "I" (.int (3 : Int32))) (S_1 : Sta Z h0 "com/example/leafweight/leafweight/BlockType" "HUFFMAN" "Lcom/example/leafweight/leafweight/BlockType;" (.ref wH)) (S_2 : Sta Z h0 "com/example/leafweight/leafweight/BlockType" "STORED" "Lcom/example/leafweight/leafweight/BlockType;" (.ref wS)) (S_3 : Sta Z h0 "com/example/leafweight/leafweight/BlockType" "RUN" "Lcom/example/leafweight/leafweight/BlockType;" (.ref wR)) :
    MetFree l x (head1 (Jvm.Cond.code x code maxLocals ret :: ws) room_1) (fun a U => a = #[(.int xv), (.int fv)] ∧ Z.Warmed39 U.vm ∧ U.heap = h0) (fun _ _ _ _ _ => True) (fun _ U oc U' => ∃ v L, oc = .returned v ∧ Q0 xv fv h0 n0 v U'.heap L ∧ FrameEnd U oc U' L room_1.cells room_1.slots) := by
  refine MetFree.of_bodySF (plainFor_of_name pn_0) hisR ?_
  intro p e s m args below meth c s₁ Bd hml0 hP hK
  obtain ⟨rfl, hZ, hh⟩ := hP
  have hx := Bd.exec
  have hby := Bd.bytes
  have hml : c.maxLocals = 5 := hml0
  have hown : s.vm.findClass "com/example/leafweight/leafweight/BlockTypeOfPinLaw" = some m.cls := findClass_of_methodNamed Bd.named
  have hnm := (name_of_methodNamed Bd.named Bd.method).1
  have X0 : Stand p l e room_1 s m #[(.int xv), (.int fv)] below meth c s₁ [] 0 0 := Stand.of_body Bd
  have e0 : s₁.heap = h0 := by rw [← hh, Bd.state]; rfl
  have N0 := Fr.nil n0
  have pre0 : ∀ t, Steps p.tables e below (s₁.setTop (mkF m 0 #[.val (.int xv), .val (.int fv), .unset, .unset, .unset] [])) t → Steps p.tables e below (s₁.setTop (entryFrame m #[(.int xv), (.int fv)] maxLocals)) t := fun t kt => castTop (ef_0 m xv fv) kt
  have pre107 : ∀ t, Steps p.tables e below (s₁.setTop (mkF m 17 #[.val (.int xv), .val (.int fv), .val (.int (own_c xv fv)), .unset, .unset] [])) t → Steps p.tables e below (s₁.setTop (entryFrame m #[(.int xv), (.int fv)] maxLocals)) t := fun t kt => by
    refine pre0 _ ?_
    show Steps p.tables e below (s₁.setTop (mkF m 0 #[.val (.int xv), .val (.int fv), .unset, .unset, .unset] [])) _
    refine XS.iloadN X0.here hx rfl (hb hby at_0) rfl ?_
    show Steps p.tables e below (s₁.setTop (mkF m 1 #[.val (.int xv), .val (.int fv), .unset, .unset, .unset] [(.int fv)])) _
    refine XS.iconst X0.here hx rfl (hb hby at_1) ?_
    show Steps p.tables e below (s₁.setTop (mkF m 2 #[.val (.int xv), .val (.int fv), .unset, .unset, .unset] [(.int (1 : Int32)), (.int fv)])) _
    refine XS.iand X0.here hx rfl (hb hby at_2) rfl ?_
    show Steps p.tables e below (s₁.setTop (mkF m 3 #[.val (.int xv), .val (.int fv), .unset, .unset, .unset] [(.int (fv &&& (1 : Int32)))])) _
    by_cases c108 : (fv &&& (1 : Int32)) = (0 : Int32)
    · refine XS.ifYes X0.here hx rfl (pc0 := 3) (pc' := 15) rfl (hb hby at_3) rfl ((if0 _ _).trans (teq c108).1) (by decide) (by decide) ?_
      show Steps p.tables e below (s₁.setTop (mkF m 15 #[.val (.int xv), .val (.int fv), .unset, .unset, .unset] [])) _
      refine XS.iloadN X0.here hx rfl (hb hby at_15) rfl ?_
      show Steps p.tables e below (s₁.setTop (mkF m 16 #[.val (.int xv), .val (.int fv), .unset, .unset, .unset] [(.int xv)])) _
      have hv : own_c xv fv = xv := by unfold own_c; rw [if_pos c108]
      rw [hv] at kt
      refine XS.istoreN X0.here hx rfl (hb hby at_16) rfl (l' := #[.val (.int xv), .val (.int fv), .val (.int xv), .unset, .unset]) rfl ?_
      show Steps p.tables e below (s₁.setTop (mkF m 17 #[.val (.int xv), .val (.int fv), .val (.int xv), .unset, .unset] [])) _
      exact kt
    · refine XS.ifNo X0.here hx rfl (hb hby at_3) rfl ((if0 _ _).trans (feq c108).1) ?_
      show Steps p.tables e below (s₁.setTop (mkF m 6 #[.val (.int xv), .val (.int fv), .unset, .unset, .unset] [])) _
      refine XS.iloadN X0.here hx rfl (hb hby at_6) rfl ?_
      show Steps p.tables e below (s₁.setTop (mkF m 7 #[.val (.int xv), .val (.int fv), .unset, .unset, .unset] [(.int xv)])) _
      refine XS.bipush X0.here hx rfl (hb hby at_7) ?_
      show Steps p.tables e below (s₁.setTop (mkF m 9 #[.val (.int xv), .val (.int fv), .unset, .unset, .unset] [(.int (7 : Int32)), (.int xv)])) _
      refine XS.iand X0.here hx rfl (hb hby at_9) rfl ?_
      show Steps p.tables e below (s₁.setTop (mkF m 10 #[.val (.int xv), .val (.int fv), .unset, .unset, .unset] [(.int (xv &&& (7 : Int32)))])) _
      refine XS.iconst X0.here hx rfl (hb hby at_10) ?_
      show Steps p.tables e below (s₁.setTop (mkF m 11 #[.val (.int xv), .val (.int fv), .unset, .unset, .unset] [(.int (2 : Int32)), (.int (xv &&& (7 : Int32)))])) _
      refine XS.isub X0.here hx rfl (hb hby at_11) rfl ?_
      show Steps p.tables e below (s₁.setTop (mkF m 12 #[.val (.int xv), .val (.int fv), .unset, .unset, .unset] [(.int ((xv &&& (7 : Int32)) - (2 : Int32)))])) _
      refine XS.goto X0.here hx rfl (pc0 := 12) (pc' := 16) rfl (hb hby at_12) (by decide) (by decide) ?_
      show Steps p.tables e below (s₁.setTop (mkF m 16 #[.val (.int xv), .val (.int fv), .unset, .unset, .unset] [(.int ((xv &&& (7 : Int32)) - (2 : Int32)))])) _
      have hv : own_c xv fv = ((xv &&& (7 : Int32)) - (2 : Int32)) := by unfold own_c; rw [if_neg c108]
      rw [hv] at kt
      refine XS.istoreN X0.here hx rfl (hb hby at_16) rfl (l' := #[.val (.int xv), .val (.int fv), .val (.int ((xv &&& (7 : Int32)) - (2 : Int32))), .unset, .unset]) rfl ?_
      show Steps p.tables e below (s₁.setTop (mkF m 17 #[.val (.int xv), .val (.int fv), .val (.int ((xv &&& (7 : Int32)) - (2 : Int32))), .unset, .unset] [])) _
      exact kt
  obtain ⟨cv, e_cv⟩ : ∃ z : Int32, z = (own_c xv fv) := ⟨_, rfl⟩
  have pre109 : ∀ t, Steps p.tables e below (s₁.setTop (mkF m 17 #[.val (.int xv), .val (.int fv), .val (.int cv), .unset, .unset] [])) t → Steps p.tables e below (s₁.setTop (entryFrame m #[(.int xv), (.int fv)] maxLocals)) t := by rw [e_cv]; exact pre107
  have pre110 : ∀ t, Steps p.tables e below (s₁.setTop (mkF m 19 #[.val (.int xv), .val (.int fv), .val (.int cv), .unset, .unset] [(.int (1 : Int32)), (.int cv)])) t → Steps p.tables e below (s₁.setTop (entryFrame m #[(.int xv), (.int fv)] maxLocals)) t := fun t kt => by
    refine pre109 _ ?_
    show Steps p.tables e below (s₁.setTop (mkF m 17 #[.val (.int xv), .val (.int fv), .val (.int cv), .unset, .unset] [])) _
    refine XS.iloadN X0.here hx rfl (hb hby at_17) rfl ?_
    show Steps p.tables e below (s₁.setTop (mkF m 18 #[.val (.int xv), .val (.int fv), .val (.int cv), .unset, .unset] [(.int cv)])) _
    refine XS.iconst X0.here hx rfl (hb hby at_18) ?_
    show Steps p.tables e below (s₁.setTop (mkF m 19 #[.val (.int xv), .val (.int fv), .val (.int cv), .unset, .unset] [(.int (1 : Int32)), (.int cv)])) _
    exact kt
  by_cases c112 : cv = (1 : Int32)
  · have pre113 : ∀ t, Steps p.tables e below (s₁.setTop (mkF m 22 #[.val (.int xv), .val (.int fv), .val (.int cv), .unset, .unset] [])) t → Steps p.tables e below (s₁.setTop (entryFrame m #[(.int xv), (.int fv)] maxLocals)) t := fun t kt => by
      refine pre110 _ ?_
      show Steps p.tables e below (s₁.setTop (mkF m 19 #[.val (.int xv), .val (.int fv), .val (.int cv), .unset, .unset] [(.int (1 : Int32)), (.int cv)])) _
      refine XS.icmpNo X0.here hx rfl (hb hby at_19) rfl (teq c112).2 ?_
      show Steps p.tables e below (s₁.setTop (mkF m 22 #[.val (.int xv), .val (.int fv), .val (.int cv), .unset, .unset] [])) _
      exact kt
    have pre114 : ∀ t, Steps p.tables e below (s₁.setTop (mkF m 22 #[.val (.int xv), .val (.int fv), .val (.int (1 : Int32)), .unset, .unset] [])) t → Steps p.tables e below (s₁.setTop (entryFrame m #[(.int xv), (.int fv)] maxLocals)) t := by
      have q := pre113
      rw [c112] at q
      exact q
    obtain ⟨T116, X116, e116, st116⟩ := getS2 X0 hx hZ hown (host := "") (Or.inl (hw _ (List.mem_of_getElem? (i := 26) rfl))) Via.refl e0 S_1 (g := (mkF m 22 #[.val (.int xv), .val (.int fv), .val (.int (1 : Int32)), .unset, .unset] [])) rfl (hb hby at_22)
    have pre116 : ∀ t, Steps p.tables e below (T116.setTop (mkF m 25 #[.val (.int xv), .val (.int fv), .val (.int (1 : Int32)), .unset, .unset] [(.ref wH)])) t → Steps p.tables e below (s₁.setTop (entryFrame m #[(.int xv), (.int fv)] maxLocals)) t := fun t kt => pre114 _ (st116 t kt)
    have pre117 : ∀ t, Steps p.tables e below (T116.setTop (mkF m 56 #[.val (.int xv), .val (.int fv), .val (.int (1 : Int32)), .val (.ref wH), .unset] [(.int (1 : Int32))])) t → Steps p.tables e below (s₁.setTop (entryFrame m #[(.int xv), (.int fv)] maxLocals)) t := fun t kt => by
      refine pre116 _ ?_
      show Steps p.tables e below (T116.setTop (mkF m 25 #[.val (.int xv), .val (.int fv), .val (.int (1 : Int32)), .unset, .unset] [(.ref wH)])) _
      refine XS.astoreN X116.here hx rfl (hb hby at_25) rfl rfl (l' := #[.val (.int xv), .val (.int fv), .val (.int (1 : Int32)), .val (.ref wH), .unset]) rfl ?_
      show Steps p.tables e below (T116.setTop (mkF m 26 #[.val (.int xv), .val (.int fv), .val (.int (1 : Int32)), .val (.ref wH), .unset] [])) _
      refine XS.goto X116.here hx rfl (pc0 := 26) (pc' := 55) rfl (hb hby at_26) (by decide) (by decide) ?_
      show Steps p.tables e below (T116.setTop (mkF m 55 #[.val (.int xv), .val (.int fv), .val (.int (1 : Int32)), .val (.ref wH), .unset] [])) _
      refine XS.iloadN X116.here hx rfl (hb hby at_55) rfl ?_
      show Steps p.tables e below (T116.setTop (mkF m 56 #[.val (.int xv), .val (.int fv), .val (.int (1 : Int32)), .val (.ref wH), .unset] [(.int (1 : Int32))])) _
      exact kt
    obtain ⟨v118, _, ⟨T118, L118, k118, n118⟩, -, X118, ⟨Lc118, hQ118, l118, y118, z118⟩, st118⟩ := Jvm.LawKit.callS X116 hx (y := (⟨"com/example/leafweight/leafweight/BlockType", "of", "(I)Lcom/example/leafweight/leafweight/BlockType;"⟩ : MethodName)) hown (mvT hZ (hw _ (List.mem_of_getElem? (i := 0) rfl))) (mvT hZ (hw _ (List.mem_of_getElem? (i := 1) rfl))) (mvT hZ (hw _ (List.mem_of_getElem? (i := 2) rfl))) (mvT hZ (hw _ (List.mem_of_getElem? (i := 3) rfl))) (by decide) (backOf (W := 0) (rm1_1 l Z aZ hw []  wV wH wS wR kv h0 n0 Z0 S_V V_V E_V F_1 F_2 F_3) hZ (hw _ (List.mem_of_getElem? (i := 3) rfl)) (hw _ (List.mem_of_getElem? (i := 2) rfl)) (by decide) (by decide)) (g := (mkF m 56 #[.val (.int xv), .val (.int fv), .val (.int (1 : Int32)), .val (.ref wH), .unset] [(.int (1 : Int32))])) rfl (by rw [hml]; rfl) (argsL := [(.int (1 : Int32))]) (rest := []) (lenOf pd_0 rfl) rfl (by show 2 * 0 + _ ≤ _; exact Nat.le_of_eq rfl) (hb hby at_56) (fun _ _ => ⟨rfl, e116, (by decide : 0 + 1 ≤ _), (by decide : 0 + 3 ≤ _)⟩)
    dsimp only [Pt.U, Pt.locs, Pt.cells, Pt.slots] at X118 l118 y118 z118 st118 hQ118
    rw [l118, y118, z118] at X118
    clear l118 y118 z118
    obtain ⟨vq118, N118q, Kc118⟩ := hQ118
    rw [vq118] at st118
    have N118 := Fr.app N0 N118q
    have pre118 : ∀ t, Steps p.tables e below (T118.setTop (mkF m 59 #[.val (.int xv), .val (.int fv), .val (.int (1 : Int32)), .val (.ref wH), .unset] [(.ref wH)])) t → Steps p.tables e below (s₁.setTop (entryFrame m #[(.int xv), (.int fv)] maxLocals)) t := fun t kt => pre117 _ (st118 t kt)
    have Zs118 : n0 ≤ T118.heap.size := Nat.le_trans Z0 Kc118.1
    have K0 := Keep.refl h0 []
    have K118 := K0.trans Kc118 (by simp)
    have pre119 : ∀ t, Steps p.tables e below (T118.setTop (mkF m 64 #[.val (.int xv), .val (.int fv), .val (.int (1 : Int32)), .val (.ref wH), .val (.ref wH)] [(.ref wH), (.ref wH)])) t → Steps p.tables e below (s₁.setTop (entryFrame m #[(.int xv), (.int fv)] maxLocals)) t := fun t kt => by
      refine pre118 _ ?_
      show Steps p.tables e below (T118.setTop (mkF m 59 #[.val (.int xv), .val (.int fv), .val (.int (1 : Int32)), .val (.ref wH), .unset] [(.ref wH)])) _
      refine XS.astore X118.here hx rfl (hb hby at_59) rfl rfl (l' := #[.val (.int xv), .val (.int fv), .val (.int (1 : Int32)), .val (.ref wH), .val (.ref wH)]) rfl ?_
      show Steps p.tables e below (T118.setTop (mkF m 61 #[.val (.int xv), .val (.int fv), .val (.int (1 : Int32)), .val (.ref wH), .val (.ref wH)] [])) _
      refine XS.aload X118.here hx rfl (hb hby at_61) rfl rfl ?_
      show Steps p.tables e below (T118.setTop (mkF m 63 #[.val (.int xv), .val (.int fv), .val (.int (1 : Int32)), .val (.ref wH), .val (.ref wH)] [(.ref wH)])) _
      refine XS.aloadN X118.here hx rfl (hb hby at_63) rfl rfl ?_
      show Steps p.tables e below (T118.setTop (mkF m 64 #[.val (.int xv), .val (.int fv), .val (.int (1 : Int32)), .val (.ref wH), .val (.ref wH)] [(.ref wH), (.ref wH)])) _
      exact kt
    have pre120 : ∀ t, Steps p.tables e below (T118.setTop (mkF m 67 #[.val (.int xv), .val (.int fv), .val (.int (1 : Int32)), .val (.ref wH), .val (.ref wH)] [])) t → Steps p.tables e below (s₁.setTop (entryFrame m #[(.int xv), (.int fv)] maxLocals)) t := fun t kt => pre119 _ (Jvm.RoadKit.acmp (g := (mkF m 64 #[.val (.int xv), .val (.int fv), .val (.int (1 : Int32)), .val (.ref wH), .val (.ref wH)] [(.ref wH), (.ref wH)])) X118 hx rfl rfl rfl (pc0 := 64) (pc' := 67) (same := true) rfl (hb hby at_64) rfl (decide_eq_true rfl) (by decide) (by decide) kt)
    have pre121 : ∀ t, Steps p.tables e below (T118.setTop (mkF m 72 #[.val (.int xv), .val (.int fv), .val (.int (1 : Int32)), .val (.ref wH), .val (.ref wH)] [(.int (1 : Int32))])) t → Steps p.tables e below (s₁.setTop (entryFrame m #[(.int xv), (.int fv)] maxLocals)) t := fun t kt => by
      refine pre120 _ ?_
      show Steps p.tables e below (T118.setTop (mkF m 67 #[.val (.int xv), .val (.int fv), .val (.int (1 : Int32)), .val (.ref wH), .val (.ref wH)] [])) _
      refine XS.iconst X118.here hx rfl (hb hby at_67) ?_
      show Steps p.tables e below (T118.setTop (mkF m 68 #[.val (.int xv), .val (.int fv), .val (.int (1 : Int32)), .val (.ref wH), .val (.ref wH)] [(.int (1 : Int32))])) _
      refine XS.goto X118.here hx rfl (pc0 := 68) (pc' := 72) rfl (hb hby at_68) (by decide) (by decide) ?_
      show Steps p.tables e below (T118.setTop (mkF m 72 #[.val (.int xv), .val (.int fv), .val (.int (1 : Int32)), .val (.ref wH), .val (.ref wH)] [(.int (1 : Int32))])) _
      exact kt
    obtain ⟨fs, hr, hrun, hended, hW, hsame⟩ := X118.leave (v := some (.int (1 : Int32))) (fun h => by rw [Bd.returns] at h; cases h)
    refine ⟨_, _, pre121 _ ?_, hrun, hended, _, _, rfl, ?_, ⟨_, rfl⟩, hW, hsame.mono (by decide) (by decide)⟩
    · show Steps p.tables e below (T118.setTop (mkF m 72 #[.val (.int xv), .val (.int fv), .val (.int (1 : Int32)), .val (.ref wH), .val (.ref wH)] [(.int (1 : Int32))])) _
      exact retN X118 hx (t := .boolean) Bd.returns (by simp) (hb hby at_72) hr
    · show Q0 xv fv h0 n0 _ T118.heap _
      exact ⟨rfl, N118⟩
  · have pre122 : ∀ t, Steps p.tables e below (s₁.setTop (mkF m 29 #[.val (.int xv), .val (.int fv), .val (.int cv), .unset, .unset] [])) t → Steps p.tables e below (s₁.setTop (entryFrame m #[(.int xv), (.int fv)] maxLocals)) t := fun t kt => by
      refine pre110 _ ?_
      show Steps p.tables e below (s₁.setTop (mkF m 19 #[.val (.int xv), .val (.int fv), .val (.int cv), .unset, .unset] [(.int (1 : Int32)), (.int cv)])) _
      refine XS.icmpYes X0.here hx rfl (pc0 := 19) (pc' := 29) rfl (hb hby at_19) rfl (feq c112).2 (by decide) (by decide) ?_
      show Steps p.tables e below (s₁.setTop (mkF m 29 #[.val (.int xv), .val (.int fv), .val (.int cv), .unset, .unset] [])) _
      exact kt
    have pre123 : ∀ t, Steps p.tables e below (s₁.setTop (mkF m 31 #[.val (.int xv), .val (.int fv), .val (.int cv), .unset, .unset] [(.int (2 : Int32)), (.int cv)])) t → Steps p.tables e below (s₁.setTop (entryFrame m #[(.int xv), (.int fv)] maxLocals)) t := fun t kt => by
      refine pre122 _ ?_
      show Steps p.tables e below (s₁.setTop (mkF m 29 #[.val (.int xv), .val (.int fv), .val (.int cv), .unset, .unset] [])) _
      refine XS.iloadN X0.here hx rfl (hb hby at_29) rfl ?_
      show Steps p.tables e below (s₁.setTop (mkF m 30 #[.val (.int xv), .val (.int fv), .val (.int cv), .unset, .unset] [(.int cv)])) _
      refine XS.iconst X0.here hx rfl (hb hby at_30) ?_
      show Steps p.tables e below (s₁.setTop (mkF m 31 #[.val (.int xv), .val (.int fv), .val (.int cv), .unset, .unset] [(.int (2 : Int32)), (.int cv)])) _
      exact kt
    by_cases c124 : cv = (2 : Int32)
    · have pre125 : ∀ t, Steps p.tables e below (s₁.setTop (mkF m 34 #[.val (.int xv), .val (.int fv), .val (.int cv), .unset, .unset] [])) t → Steps p.tables e below (s₁.setTop (entryFrame m #[(.int xv), (.int fv)] maxLocals)) t := fun t kt => by
        refine pre123 _ ?_
        show Steps p.tables e below (s₁.setTop (mkF m 31 #[.val (.int xv), .val (.int fv), .val (.int cv), .unset, .unset] [(.int (2 : Int32)), (.int cv)])) _
        refine XS.icmpNo X0.here hx rfl (hb hby at_31) rfl (teq c124).2 ?_
        show Steps p.tables e below (s₁.setTop (mkF m 34 #[.val (.int xv), .val (.int fv), .val (.int cv), .unset, .unset] [])) _
        exact kt
      have pre126 : ∀ t, Steps p.tables e below (s₁.setTop (mkF m 34 #[.val (.int xv), .val (.int fv), .val (.int (2 : Int32)), .unset, .unset] [])) t → Steps p.tables e below (s₁.setTop (entryFrame m #[(.int xv), (.int fv)] maxLocals)) t := by
        have q := pre125
        rw [c124] at q
        exact q
      obtain ⟨T128, X128, e128, st128⟩ := getS2 X0 hx hZ hown (host := "") (Or.inl (hw _ (List.mem_of_getElem? (i := 24) rfl))) Via.refl e0 S_2 (g := (mkF m 34 #[.val (.int xv), .val (.int fv), .val (.int (2 : Int32)), .unset, .unset] [])) rfl (hb hby at_34)
      have pre128 : ∀ t, Steps p.tables e below (T128.setTop (mkF m 37 #[.val (.int xv), .val (.int fv), .val (.int (2 : Int32)), .unset, .unset] [(.ref wS)])) t → Steps p.tables e below (s₁.setTop (entryFrame m #[(.int xv), (.int fv)] maxLocals)) t := fun t kt => pre126 _ (st128 t kt)
      have pre129 : ∀ t, Steps p.tables e below (T128.setTop (mkF m 56 #[.val (.int xv), .val (.int fv), .val (.int (2 : Int32)), .val (.ref wS), .unset] [(.int (2 : Int32))])) t → Steps p.tables e below (s₁.setTop (entryFrame m #[(.int xv), (.int fv)] maxLocals)) t := fun t kt => by
        refine pre128 _ ?_
        show Steps p.tables e below (T128.setTop (mkF m 37 #[.val (.int xv), .val (.int fv), .val (.int (2 : Int32)), .unset, .unset] [(.ref wS)])) _
        refine XS.astoreN X128.here hx rfl (hb hby at_37) rfl rfl (l' := #[.val (.int xv), .val (.int fv), .val (.int (2 : Int32)), .val (.ref wS), .unset]) rfl ?_
        show Steps p.tables e below (T128.setTop (mkF m 38 #[.val (.int xv), .val (.int fv), .val (.int (2 : Int32)), .val (.ref wS), .unset] [])) _
        refine XS.goto X128.here hx rfl (pc0 := 38) (pc' := 55) rfl (hb hby at_38) (by decide) (by decide) ?_
        show Steps p.tables e below (T128.setTop (mkF m 55 #[.val (.int xv), .val (.int fv), .val (.int (2 : Int32)), .val (.ref wS), .unset] [])) _
        refine XS.iloadN X128.here hx rfl (hb hby at_55) rfl ?_
        show Steps p.tables e below (T128.setTop (mkF m 56 #[.val (.int xv), .val (.int fv), .val (.int (2 : Int32)), .val (.ref wS), .unset] [(.int (2 : Int32))])) _
        exact kt
      obtain ⟨v130, _, ⟨T130, L130, k130, n130⟩, -, X130, ⟨Lc130, hQ130, l130, y130, z130⟩, st130⟩ := Jvm.LawKit.callS X128 hx (y := (⟨"com/example/leafweight/leafweight/BlockType", "of", "(I)Lcom/example/leafweight/leafweight/BlockType;"⟩ : MethodName)) hown (mvT hZ (hw _ (List.mem_of_getElem? (i := 0) rfl))) (mvT hZ (hw _ (List.mem_of_getElem? (i := 1) rfl))) (mvT hZ (hw _ (List.mem_of_getElem? (i := 2) rfl))) (mvT hZ (hw _ (List.mem_of_getElem? (i := 3) rfl))) (by decide) (backOf (W := 0) (rm1_2 l Z aZ hw []  wV wH wS wR kv h0 n0 Z0 S_V V_V E_V F_1 F_2 F_3) hZ (hw _ (List.mem_of_getElem? (i := 3) rfl)) (hw _ (List.mem_of_getElem? (i := 2) rfl)) (by decide) (by decide)) (g := (mkF m 56 #[.val (.int xv), .val (.int fv), .val (.int (2 : Int32)), .val (.ref wS), .unset] [(.int (2 : Int32))])) rfl (by rw [hml]; rfl) (argsL := [(.int (2 : Int32))]) (rest := []) (lenOf pd_0 rfl) rfl (by show 2 * 0 + _ ≤ _; exact Nat.le_of_eq rfl) (hb hby at_56) (fun _ _ => ⟨rfl, e128, (by decide : 0 + 1 ≤ _), (by decide : 0 + 3 ≤ _)⟩)
      dsimp only [Pt.U, Pt.locs, Pt.cells, Pt.slots] at X130 l130 y130 z130 st130 hQ130
      rw [l130, y130, z130] at X130
      clear l130 y130 z130
      obtain ⟨vq130, N130q, Kc130⟩ := hQ130
      rw [vq130] at st130
      have N130 := Fr.app N0 N130q
      have pre130 : ∀ t, Steps p.tables e below (T130.setTop (mkF m 59 #[.val (.int xv), .val (.int fv), .val (.int (2 : Int32)), .val (.ref wS), .unset] [(.ref wS)])) t → Steps p.tables e below (s₁.setTop (entryFrame m #[(.int xv), (.int fv)] maxLocals)) t := fun t kt => pre129 _ (st130 t kt)
      have Zs130 : n0 ≤ T130.heap.size := Nat.le_trans Z0 Kc130.1
      have K0 := Keep.refl h0 []
      have K130 := K0.trans Kc130 (by simp)
      have pre131 : ∀ t, Steps p.tables e below (T130.setTop (mkF m 64 #[.val (.int xv), .val (.int fv), .val (.int (2 : Int32)), .val (.ref wS), .val (.ref wS)] [(.ref wS), (.ref wS)])) t → Steps p.tables e below (s₁.setTop (entryFrame m #[(.int xv), (.int fv)] maxLocals)) t := fun t kt => by
        refine pre130 _ ?_
        show Steps p.tables e below (T130.setTop (mkF m 59 #[.val (.int xv), .val (.int fv), .val (.int (2 : Int32)), .val (.ref wS), .unset] [(.ref wS)])) _
        refine XS.astore X130.here hx rfl (hb hby at_59) rfl rfl (l' := #[.val (.int xv), .val (.int fv), .val (.int (2 : Int32)), .val (.ref wS), .val (.ref wS)]) rfl ?_
        show Steps p.tables e below (T130.setTop (mkF m 61 #[.val (.int xv), .val (.int fv), .val (.int (2 : Int32)), .val (.ref wS), .val (.ref wS)] [])) _
        refine XS.aload X130.here hx rfl (hb hby at_61) rfl rfl ?_
        show Steps p.tables e below (T130.setTop (mkF m 63 #[.val (.int xv), .val (.int fv), .val (.int (2 : Int32)), .val (.ref wS), .val (.ref wS)] [(.ref wS)])) _
        refine XS.aloadN X130.here hx rfl (hb hby at_63) rfl rfl ?_
        show Steps p.tables e below (T130.setTop (mkF m 64 #[.val (.int xv), .val (.int fv), .val (.int (2 : Int32)), .val (.ref wS), .val (.ref wS)] [(.ref wS), (.ref wS)])) _
        exact kt
      have pre132 : ∀ t, Steps p.tables e below (T130.setTop (mkF m 67 #[.val (.int xv), .val (.int fv), .val (.int (2 : Int32)), .val (.ref wS), .val (.ref wS)] [])) t → Steps p.tables e below (s₁.setTop (entryFrame m #[(.int xv), (.int fv)] maxLocals)) t := fun t kt => pre131 _ (Jvm.RoadKit.acmp (g := (mkF m 64 #[.val (.int xv), .val (.int fv), .val (.int (2 : Int32)), .val (.ref wS), .val (.ref wS)] [(.ref wS), (.ref wS)])) X130 hx rfl rfl rfl (pc0 := 64) (pc' := 67) (same := true) rfl (hb hby at_64) rfl (decide_eq_true rfl) (by decide) (by decide) kt)
      have pre133 : ∀ t, Steps p.tables e below (T130.setTop (mkF m 72 #[.val (.int xv), .val (.int fv), .val (.int (2 : Int32)), .val (.ref wS), .val (.ref wS)] [(.int (1 : Int32))])) t → Steps p.tables e below (s₁.setTop (entryFrame m #[(.int xv), (.int fv)] maxLocals)) t := fun t kt => by
        refine pre132 _ ?_
        show Steps p.tables e below (T130.setTop (mkF m 67 #[.val (.int xv), .val (.int fv), .val (.int (2 : Int32)), .val (.ref wS), .val (.ref wS)] [])) _
        refine XS.iconst X130.here hx rfl (hb hby at_67) ?_
        show Steps p.tables e below (T130.setTop (mkF m 68 #[.val (.int xv), .val (.int fv), .val (.int (2 : Int32)), .val (.ref wS), .val (.ref wS)] [(.int (1 : Int32))])) _
        refine XS.goto X130.here hx rfl (pc0 := 68) (pc' := 72) rfl (hb hby at_68) (by decide) (by decide) ?_
        show Steps p.tables e below (T130.setTop (mkF m 72 #[.val (.int xv), .val (.int fv), .val (.int (2 : Int32)), .val (.ref wS), .val (.ref wS)] [(.int (1 : Int32))])) _
        exact kt
      obtain ⟨fs, hr, hrun, hended, hW, hsame⟩ := X130.leave (v := some (.int (1 : Int32))) (fun h => by rw [Bd.returns] at h; cases h)
      refine ⟨_, _, pre133 _ ?_, hrun, hended, _, _, rfl, ?_, ⟨_, rfl⟩, hW, hsame.mono (by decide) (by decide)⟩
      · show Steps p.tables e below (T130.setTop (mkF m 72 #[.val (.int xv), .val (.int fv), .val (.int (2 : Int32)), .val (.ref wS), .val (.ref wS)] [(.int (1 : Int32))])) _
        exact retN X130 hx (t := .boolean) Bd.returns (by simp) (hb hby at_72) hr
      · show Q0 xv fv h0 n0 _ T130.heap _
        exact ⟨rfl, N130⟩
    · have pre134 : ∀ t, Steps p.tables e below (s₁.setTop (mkF m 41 #[.val (.int xv), .val (.int fv), .val (.int cv), .unset, .unset] [])) t → Steps p.tables e below (s₁.setTop (entryFrame m #[(.int xv), (.int fv)] maxLocals)) t := fun t kt => by
        refine pre123 _ ?_
        show Steps p.tables e below (s₁.setTop (mkF m 31 #[.val (.int xv), .val (.int fv), .val (.int cv), .unset, .unset] [(.int (2 : Int32)), (.int cv)])) _
        refine XS.icmpYes X0.here hx rfl (pc0 := 31) (pc' := 41) rfl (hb hby at_31) rfl (feq c124).2 (by decide) (by decide) ?_
        show Steps p.tables e below (s₁.setTop (mkF m 41 #[.val (.int xv), .val (.int fv), .val (.int cv), .unset, .unset] [])) _
        exact kt
      have pre135 : ∀ t, Steps p.tables e below (s₁.setTop (mkF m 43 #[.val (.int xv), .val (.int fv), .val (.int cv), .unset, .unset] [(.int (3 : Int32)), (.int cv)])) t → Steps p.tables e below (s₁.setTop (entryFrame m #[(.int xv), (.int fv)] maxLocals)) t := fun t kt => by
        refine pre134 _ ?_
        show Steps p.tables e below (s₁.setTop (mkF m 41 #[.val (.int xv), .val (.int fv), .val (.int cv), .unset, .unset] [])) _
        refine XS.iloadN X0.here hx rfl (hb hby at_41) rfl ?_
        show Steps p.tables e below (s₁.setTop (mkF m 42 #[.val (.int xv), .val (.int fv), .val (.int cv), .unset, .unset] [(.int cv)])) _
        refine XS.iconst X0.here hx rfl (hb hby at_42) ?_
        show Steps p.tables e below (s₁.setTop (mkF m 43 #[.val (.int xv), .val (.int fv), .val (.int cv), .unset, .unset] [(.int (3 : Int32)), (.int cv)])) _
        exact kt
      by_cases c136 : cv = (3 : Int32)
      · have pre137 : ∀ t, Steps p.tables e below (s₁.setTop (mkF m 46 #[.val (.int xv), .val (.int fv), .val (.int cv), .unset, .unset] [])) t → Steps p.tables e below (s₁.setTop (entryFrame m #[(.int xv), (.int fv)] maxLocals)) t := fun t kt => by
          refine pre135 _ ?_
          show Steps p.tables e below (s₁.setTop (mkF m 43 #[.val (.int xv), .val (.int fv), .val (.int cv), .unset, .unset] [(.int (3 : Int32)), (.int cv)])) _
          refine XS.icmpNo X0.here hx rfl (hb hby at_43) rfl (teq c136).2 ?_
          show Steps p.tables e below (s₁.setTop (mkF m 46 #[.val (.int xv), .val (.int fv), .val (.int cv), .unset, .unset] [])) _
          exact kt
        have pre138 : ∀ t, Steps p.tables e below (s₁.setTop (mkF m 46 #[.val (.int xv), .val (.int fv), .val (.int (3 : Int32)), .unset, .unset] [])) t → Steps p.tables e below (s₁.setTop (entryFrame m #[(.int xv), (.int fv)] maxLocals)) t := by
          have q := pre137
          rw [c136] at q
          exact q
        obtain ⟨T140, X140, e140, st140⟩ := getS2 X0 hx hZ hown (host := "") (Or.inl (hw _ (List.mem_of_getElem? (i := 25) rfl))) Via.refl e0 S_3 (g := (mkF m 46 #[.val (.int xv), .val (.int fv), .val (.int (3 : Int32)), .unset, .unset] [])) rfl (hb hby at_46)
        have pre140 : ∀ t, Steps p.tables e below (T140.setTop (mkF m 49 #[.val (.int xv), .val (.int fv), .val (.int (3 : Int32)), .unset, .unset] [(.ref wR)])) t → Steps p.tables e below (s₁.setTop (entryFrame m #[(.int xv), (.int fv)] maxLocals)) t := fun t kt => pre138 _ (st140 t kt)
        have pre141 : ∀ t, Steps p.tables e below (T140.setTop (mkF m 56 #[.val (.int xv), .val (.int fv), .val (.int (3 : Int32)), .val (.ref wR), .unset] [(.int (3 : Int32))])) t → Steps p.tables e below (s₁.setTop (entryFrame m #[(.int xv), (.int fv)] maxLocals)) t := fun t kt => by
          refine pre140 _ ?_
          show Steps p.tables e below (T140.setTop (mkF m 49 #[.val (.int xv), .val (.int fv), .val (.int (3 : Int32)), .unset, .unset] [(.ref wR)])) _
          refine XS.astoreN X140.here hx rfl (hb hby at_49) rfl rfl (l' := #[.val (.int xv), .val (.int fv), .val (.int (3 : Int32)), .val (.ref wR), .unset]) rfl ?_
          show Steps p.tables e below (T140.setTop (mkF m 50 #[.val (.int xv), .val (.int fv), .val (.int (3 : Int32)), .val (.ref wR), .unset] [])) _
          refine XS.goto X140.here hx rfl (pc0 := 50) (pc' := 55) rfl (hb hby at_50) (by decide) (by decide) ?_
          show Steps p.tables e below (T140.setTop (mkF m 55 #[.val (.int xv), .val (.int fv), .val (.int (3 : Int32)), .val (.ref wR), .unset] [])) _
          refine XS.iloadN X140.here hx rfl (hb hby at_55) rfl ?_
          show Steps p.tables e below (T140.setTop (mkF m 56 #[.val (.int xv), .val (.int fv), .val (.int (3 : Int32)), .val (.ref wR), .unset] [(.int (3 : Int32))])) _
          exact kt
        obtain ⟨v142, _, ⟨T142, L142, k142, n142⟩, -, X142, ⟨Lc142, hQ142, l142, y142, z142⟩, st142⟩ := Jvm.LawKit.callS X140 hx (y := (⟨"com/example/leafweight/leafweight/BlockType", "of", "(I)Lcom/example/leafweight/leafweight/BlockType;"⟩ : MethodName)) hown (mvT hZ (hw _ (List.mem_of_getElem? (i := 0) rfl))) (mvT hZ (hw _ (List.mem_of_getElem? (i := 1) rfl))) (mvT hZ (hw _ (List.mem_of_getElem? (i := 2) rfl))) (mvT hZ (hw _ (List.mem_of_getElem? (i := 3) rfl))) (by decide) (backOf (W := 0) (rm1_3 l Z aZ hw []  wV wH wS wR kv h0 n0 Z0 S_V V_V E_V F_1 F_2 F_3) hZ (hw _ (List.mem_of_getElem? (i := 3) rfl)) (hw _ (List.mem_of_getElem? (i := 2) rfl)) (by decide) (by decide)) (g := (mkF m 56 #[.val (.int xv), .val (.int fv), .val (.int (3 : Int32)), .val (.ref wR), .unset] [(.int (3 : Int32))])) rfl (by rw [hml]; rfl) (argsL := [(.int (3 : Int32))]) (rest := []) (lenOf pd_0 rfl) rfl (by show 2 * 0 + _ ≤ _; exact Nat.le_of_eq rfl) (hb hby at_56) (fun _ _ => ⟨rfl, e140, (by decide : 0 + 1 ≤ _), (by decide : 0 + 3 ≤ _)⟩)
        dsimp only [Pt.U, Pt.locs, Pt.cells, Pt.slots] at X142 l142 y142 z142 st142 hQ142
        rw [l142, y142, z142] at X142
        clear l142 y142 z142
        obtain ⟨vq142, N142q, Kc142⟩ := hQ142
        rw [vq142] at st142
        have N142 := Fr.app N0 N142q
        have pre142 : ∀ t, Steps p.tables e below (T142.setTop (mkF m 59 #[.val (.int xv), .val (.int fv), .val (.int (3 : Int32)), .val (.ref wR), .unset] [(.ref wR)])) t → Steps p.tables e below (s₁.setTop (entryFrame m #[(.int xv), (.int fv)] maxLocals)) t := fun t kt => pre141 _ (st142 t kt)
        have Zs142 : n0 ≤ T142.heap.size := Nat.le_trans Z0 Kc142.1
        have K0 := Keep.refl h0 []
        have K142 := K0.trans Kc142 (by simp)
        have pre143 : ∀ t, Steps p.tables e below (T142.setTop (mkF m 64 #[.val (.int xv), .val (.int fv), .val (.int (3 : Int32)), .val (.ref wR), .val (.ref wR)] [(.ref wR), (.ref wR)])) t → Steps p.tables e below (s₁.setTop (entryFrame m #[(.int xv), (.int fv)] maxLocals)) t := fun t kt => by
          refine pre142 _ ?_
          show Steps p.tables e below (T142.setTop (mkF m 59 #[.val (.int xv), .val (.int fv), .val (.int (3 : Int32)), .val (.ref wR), .unset] [(.ref wR)])) _
          refine XS.astore X142.here hx rfl (hb hby at_59) rfl rfl (l' := #[.val (.int xv), .val (.int fv), .val (.int (3 : Int32)), .val (.ref wR), .val (.ref wR)]) rfl ?_
          show Steps p.tables e below (T142.setTop (mkF m 61 #[.val (.int xv), .val (.int fv), .val (.int (3 : Int32)), .val (.ref wR), .val (.ref wR)] [])) _
          refine XS.aload X142.here hx rfl (hb hby at_61) rfl rfl ?_
          show Steps p.tables e below (T142.setTop (mkF m 63 #[.val (.int xv), .val (.int fv), .val (.int (3 : Int32)), .val (.ref wR), .val (.ref wR)] [(.ref wR)])) _
          refine XS.aloadN X142.here hx rfl (hb hby at_63) rfl rfl ?_
          show Steps p.tables e below (T142.setTop (mkF m 64 #[.val (.int xv), .val (.int fv), .val (.int (3 : Int32)), .val (.ref wR), .val (.ref wR)] [(.ref wR), (.ref wR)])) _
          exact kt
        have pre144 : ∀ t, Steps p.tables e below (T142.setTop (mkF m 67 #[.val (.int xv), .val (.int fv), .val (.int (3 : Int32)), .val (.ref wR), .val (.ref wR)] [])) t → Steps p.tables e below (s₁.setTop (entryFrame m #[(.int xv), (.int fv)] maxLocals)) t := fun t kt => pre143 _ (Jvm.RoadKit.acmp (g := (mkF m 64 #[.val (.int xv), .val (.int fv), .val (.int (3 : Int32)), .val (.ref wR), .val (.ref wR)] [(.ref wR), (.ref wR)])) X142 hx rfl rfl rfl (pc0 := 64) (pc' := 67) (same := true) rfl (hb hby at_64) rfl (decide_eq_true rfl) (by decide) (by decide) kt)
        have pre145 : ∀ t, Steps p.tables e below (T142.setTop (mkF m 72 #[.val (.int xv), .val (.int fv), .val (.int (3 : Int32)), .val (.ref wR), .val (.ref wR)] [(.int (1 : Int32))])) t → Steps p.tables e below (s₁.setTop (entryFrame m #[(.int xv), (.int fv)] maxLocals)) t := fun t kt => by
          refine pre144 _ ?_
          show Steps p.tables e below (T142.setTop (mkF m 67 #[.val (.int xv), .val (.int fv), .val (.int (3 : Int32)), .val (.ref wR), .val (.ref wR)] [])) _
          refine XS.iconst X142.here hx rfl (hb hby at_67) ?_
          show Steps p.tables e below (T142.setTop (mkF m 68 #[.val (.int xv), .val (.int fv), .val (.int (3 : Int32)), .val (.ref wR), .val (.ref wR)] [(.int (1 : Int32))])) _
          refine XS.goto X142.here hx rfl (pc0 := 68) (pc' := 72) rfl (hb hby at_68) (by decide) (by decide) ?_
          show Steps p.tables e below (T142.setTop (mkF m 72 #[.val (.int xv), .val (.int fv), .val (.int (3 : Int32)), .val (.ref wR), .val (.ref wR)] [(.int (1 : Int32))])) _
          exact kt
        obtain ⟨fs, hr, hrun, hended, hW, hsame⟩ := X142.leave (v := some (.int (1 : Int32))) (fun h => by rw [Bd.returns] at h; cases h)
        refine ⟨_, _, pre145 _ ?_, hrun, hended, _, _, rfl, ?_, ⟨_, rfl⟩, hW, hsame.mono (by decide) (by decide)⟩
        · show Steps p.tables e below (T142.setTop (mkF m 72 #[.val (.int xv), .val (.int fv), .val (.int (3 : Int32)), .val (.ref wR), .val (.ref wR)] [(.int (1 : Int32))])) _
          exact retN X142 hx (t := .boolean) Bd.returns (by simp) (hb hby at_72) hr
        · show Q0 xv fv h0 n0 _ T142.heap _
          exact ⟨rfl, N142⟩
      · have pre146 : ∀ t, Steps p.tables e below (s₁.setTop (mkF m 53 #[.val (.int xv), .val (.int fv), .val (.int cv), .unset, .unset] [])) t → Steps p.tables e below (s₁.setTop (entryFrame m #[(.int xv), (.int fv)] maxLocals)) t := fun t kt => by
          refine pre135 _ ?_
          show Steps p.tables e below (s₁.setTop (mkF m 43 #[.val (.int xv), .val (.int fv), .val (.int cv), .unset, .unset] [(.int (3 : Int32)), (.int cv)])) _
          refine XS.icmpYes X0.here hx rfl (pc0 := 43) (pc' := 53) rfl (hb hby at_43) rfl (feq c136).2 (by decide) (by decide) ?_
          show Steps p.tables e below (s₁.setTop (mkF m 53 #[.val (.int xv), .val (.int fv), .val (.int cv), .unset, .unset] [])) _
          exact kt
        have n1 := c112
        have n2 := c124
        have n3 := c136
        have pre147 : ∀ t, Steps p.tables e below (s₁.setTop (mkF m 56 #[.val (.int xv), .val (.int fv), .val (.int cv), .val .null, .unset] [(.int cv)])) t → Steps p.tables e below (s₁.setTop (entryFrame m #[(.int xv), (.int fv)] maxLocals)) t := fun t kt => by
          refine pre146 _ ?_
          show Steps p.tables e below (s₁.setTop (mkF m 53 #[.val (.int xv), .val (.int fv), .val (.int cv), .unset, .unset] [])) _
          refine XS.aconstNull X0.here hx rfl (hb hby at_53) ?_
          show Steps p.tables e below (s₁.setTop (mkF m 54 #[.val (.int xv), .val (.int fv), .val (.int cv), .unset, .unset] [.null])) _
          refine XS.astoreN X0.here hx rfl (hb hby at_54) rfl rfl (l' := #[.val (.int xv), .val (.int fv), .val (.int cv), .val .null, .unset]) rfl ?_
          show Steps p.tables e below (s₁.setTop (mkF m 55 #[.val (.int xv), .val (.int fv), .val (.int cv), .val .null, .unset] [])) _
          refine XS.iloadN X0.here hx rfl (hb hby at_55) rfl ?_
          show Steps p.tables e below (s₁.setTop (mkF m 56 #[.val (.int xv), .val (.int fv), .val (.int cv), .val .null, .unset] [(.int cv)])) _
          exact kt
        obtain ⟨v148, _, ⟨T148, L148, k148, n148⟩, -, X148, ⟨Lc148, hQ148, l148, y148, z148⟩, st148⟩ := Jvm.LawKit.callS X0 hx (y := (⟨"com/example/leafweight/leafweight/BlockType", "of", "(I)Lcom/example/leafweight/leafweight/BlockType;"⟩ : MethodName)) hown (mvT hZ (hw _ (List.mem_of_getElem? (i := 0) rfl))) (mvT hZ (hw _ (List.mem_of_getElem? (i := 1) rfl))) (mvT hZ (hw _ (List.mem_of_getElem? (i := 2) rfl))) (mvT hZ (hw _ (List.mem_of_getElem? (i := 3) rfl))) (by decide) (backOf (W := 0) (rm1_n l Z aZ hw [] cv wV wH wS wR kv h0 n0 Z0 S_V V_V E_V F_1 F_2 F_3 n1 n2 n3) hZ (hw _ (List.mem_of_getElem? (i := 3) rfl)) (hw _ (List.mem_of_getElem? (i := 2) rfl)) (by decide) (by decide)) (g := (mkF m 56 #[.val (.int xv), .val (.int fv), .val (.int cv), .val .null, .unset] [(.int cv)])) rfl (by rw [hml]; rfl) (argsL := [(.int cv)]) (rest := []) (lenOf pd_0 rfl) rfl (by show 2 * 0 + _ ≤ _; exact Nat.le_of_eq rfl) (hb hby at_56) (fun _ _ => ⟨rfl, e0, (by decide : 0 + 1 ≤ _), (by decide : 0 + 3 ≤ _)⟩)
        dsimp only [Pt.U, Pt.locs, Pt.cells, Pt.slots] at X148 l148 y148 z148 st148 hQ148
        rw [l148, y148, z148] at X148
        clear l148 y148 z148
        obtain ⟨vq148, N148q, Kc148⟩ := hQ148
        rw [vq148] at st148
        have N148 := Fr.app N0 N148q
        have pre148 : ∀ t, Steps p.tables e below (T148.setTop (mkF m 59 #[.val (.int xv), .val (.int fv), .val (.int cv), .val .null, .unset] [.null])) t → Steps p.tables e below (s₁.setTop (entryFrame m #[(.int xv), (.int fv)] maxLocals)) t := fun t kt => pre147 _ (st148 t kt)
        have Zs148 : n0 ≤ T148.heap.size := Nat.le_trans Z0 Kc148.1
        have K0 := Keep.refl h0 []
        have K148 := K0.trans Kc148 (by simp)
        have pre149 : ∀ t, Steps p.tables e below (T148.setTop (mkF m 64 #[.val (.int xv), .val (.int fv), .val (.int cv), .val .null, .val .null] [.null, .null])) t → Steps p.tables e below (s₁.setTop (entryFrame m #[(.int xv), (.int fv)] maxLocals)) t := fun t kt => by
          refine pre148 _ ?_
          show Steps p.tables e below (T148.setTop (mkF m 59 #[.val (.int xv), .val (.int fv), .val (.int cv), .val .null, .unset] [.null])) _
          refine XS.astore X148.here hx rfl (hb hby at_59) rfl rfl (l' := #[.val (.int xv), .val (.int fv), .val (.int cv), .val .null, .val .null]) rfl ?_
          show Steps p.tables e below (T148.setTop (mkF m 61 #[.val (.int xv), .val (.int fv), .val (.int cv), .val .null, .val .null] [])) _
          refine XS.aload X148.here hx rfl (hb hby at_61) rfl rfl ?_
          show Steps p.tables e below (T148.setTop (mkF m 63 #[.val (.int xv), .val (.int fv), .val (.int cv), .val .null, .val .null] [.null])) _
          refine XS.aloadN X148.here hx rfl (hb hby at_63) rfl rfl ?_
          show Steps p.tables e below (T148.setTop (mkF m 64 #[.val (.int xv), .val (.int fv), .val (.int cv), .val .null, .val .null] [.null, .null])) _
          exact kt
        have pre150 : ∀ t, Steps p.tables e below (T148.setTop (mkF m 67 #[.val (.int xv), .val (.int fv), .val (.int cv), .val .null, .val .null] [])) t → Steps p.tables e below (s₁.setTop (entryFrame m #[(.int xv), (.int fv)] maxLocals)) t := fun t kt => pre149 _ (Jvm.RoadKit.acmp (g := (mkF m 64 #[.val (.int xv), .val (.int fv), .val (.int cv), .val .null, .val .null] [.null, .null])) X148 hx rfl rfl rfl (pc0 := 64) (pc' := 67) (same := true) rfl (hb hby at_64) rfl (decide_eq_true rfl) (by decide) (by decide) kt)
        have pre151 : ∀ t, Steps p.tables e below (T148.setTop (mkF m 72 #[.val (.int xv), .val (.int fv), .val (.int cv), .val .null, .val .null] [(.int (1 : Int32))])) t → Steps p.tables e below (s₁.setTop (entryFrame m #[(.int xv), (.int fv)] maxLocals)) t := fun t kt => by
          refine pre150 _ ?_
          show Steps p.tables e below (T148.setTop (mkF m 67 #[.val (.int xv), .val (.int fv), .val (.int cv), .val .null, .val .null] [])) _
          refine XS.iconst X148.here hx rfl (hb hby at_67) ?_
          show Steps p.tables e below (T148.setTop (mkF m 68 #[.val (.int xv), .val (.int fv), .val (.int cv), .val .null, .val .null] [(.int (1 : Int32))])) _
          refine XS.goto X148.here hx rfl (pc0 := 68) (pc' := 72) rfl (hb hby at_68) (by decide) (by decide) ?_
          show Steps p.tables e below (T148.setTop (mkF m 72 #[.val (.int xv), .val (.int fv), .val (.int cv), .val .null, .val .null] [(.int (1 : Int32))])) _
          exact kt
        obtain ⟨fs, hr, hrun, hended, hW, hsame⟩ := X148.leave (v := some (.int (1 : Int32))) (fun h => by rw [Bd.returns] at h; cases h)
        refine ⟨_, _, pre151 _ ?_, hrun, hended, _, _, rfl, ?_, ⟨_, rfl⟩, hW, hsame.mono (by decide) (by decide)⟩
        · show Steps p.tables e below (T148.setTop (mkF m 72 #[.val (.int xv), .val (.int fv), .val (.int cv), .val .null, .val .null] [(.int (1 : Int32))])) _
          exact retN X148 hx (t := .boolean) Bd.returns (by simp) (hb hby at_72) hr
        · show Q0 xv fv h0 n0 _ T148.heap _
          exact ⟨rfl, N148⟩
theorem own_eqi {a : Term} {n : Int32} {args : Array Value} {first s : State} {o : Option Outcome} {idx : List Nat} (h : (Jvm.Cond.eq a (.int n)).value args first o s idx = some true) : a.eval args first o idx s = some (.int n) := by
  simp only [Cond.value, Term.eval] at h
  cases ha : a.eval args first o idx s with
  | none => simp [ha] at h
  | some x => cases x <;> simp [ha] at h ⊢; exact h
theorem own_len {t : Term} {a : Addr} {cl : Cell} {n : Int32} {args : Array Value} {first s : State} {o : Option Outcome} {idx : List Nat} (h : (Term.length t).eval args first o idx s = some (.int n)) (ht : t.eval args first o idx s = some (.ref a)) (hat : s.arrayAt? a = some cl) : cl.slots.size < 2 ^ 31 ∧ cl.slots.size.toInt32 = n := by
  by_cases q : cl.slots.size < 2 ^ 31
  · rw [len_f ht hat q] at h
    exact ⟨q, Value.int.inj (Option.some.inj h)⟩
  · exfalso
    have q' : ¬ cl.slots.size < 2147483648 := q
    simp [Term.eval, ht, hat, q'] at h
theorem own_eqr {a b : Term} {w : Addr} {args : Array Value} {first s : State} {o : Option Outcome} {idx : List Nat} (h : (Jvm.Cond.eq a b).value args first o s idx = some true) (hb : b.eval args first o idx s = some (.ref w)) : a.eval args first o idx s = some (.ref w) := by
  simp only [Cond.value, hb] at h
  cases ha : a.eval args first o idx s with
  | none => simp [ha] at h
  | some x => cases x <;> simp [ha] at h ⊢; exact h
set_option maxRecDepth 65536 in
set_option maxHeartbeats 40000000 in
theorem comes_1 {Post : Tables → Env → Array Value → State → Outcome → State → Prop} (hpost : ∀ tb e args s v u, (limb_1_1.after args s (.returned v) u = true ∧ limb_1_2.after args s (.returned v) u = true ∧ True) → FrameEnd s (.returned v) u (Jvm.fieldLocs frame_1_writes args s ++ Jvm.arrayLocs frame_1_arrays args s ++ Jvm.staticLocs frame_1_statics s) 16 128 → Post tb e args s (.returned v) u) :
    ArmFor flags0 classFile x code maxLocals ret World_1 tables_1 room_1 Calls_1 rest_1 Pre_1 Post := by
  intro l hfl _ _ p e ha hc hk s m args below hf hA hF happ hP
  obtain ⟨hcalls, hrest, hpre⟩ := hP
  obtain ⟨-, -, -, hnamed, -, -, -, hat⟩ := (Spec.applies_iff hf).mp happ
  obtain ⟨hg, hn⟩ := and_e (Cond.before_iff.mp (show (Jvm.Cond.and given_1 narrow_1).before args s = true from hpre))
  obtain ⟨ga0, gb0⟩ := and_e hg
  obtain ⟨ga1, gb1⟩ := and_e gb0
  obtain ⟨w0, w1, rfl⟩ : ∃ w0 w1 : Value, args = #[w0, w1] := by
    have hs : args.size = 2 := by simpa [Cond.value, given_1] using ga0
    obtain ⟨L⟩ := args
    match L, hs with
    | [w0, w1], _ => exact ⟨w0, w1, rfl⟩
  have hw := fun d (hd : d ∈ tables_1) => atoms_spec (ws := Jvm.Cond.code x code maxLocals ret :: tables_1) hat d (List.mem_cons_of_mem _ hd)
  have hfit : Fit s := fun {y c} hc i hi => by
    obtain ⟨ha, rfl⟩ := Array.getElem?_eq_some_iff.mp hc
    have q := List.all_eq_true.mp ((Array.all_eq_true_iff_forall_mem.mp hF) _ (Array.getElem_mem ha)) i (List.mem_range.mpr hi)
    simpa [Array.getElem?_eq_getElem hi] using q
  obtain ⟨i0, ei0⟩ := is_v ga1
  obtain rfl : w0 = (.int i0) := Option.some.inj ei0
  obtain ⟨i1, ei1⟩ := is_v gb1
  obtain rfl : w1 = (.int i1) := Option.some.inj ei1
  obtain ⟨nA, hn⟩ := and_e hn
  obtain ⟨nE, hn⟩ := and_e hn
  obtain ⟨nL, hn⟩ := and_e hn
  obtain ⟨nX0, hn⟩ := and_e hn
  obtain ⟨nM0, hn⟩ := and_e hn
  obtain ⟨nX1, hn⟩ := and_e hn
  obtain ⟨nM1, hn⟩ := and_e hn
  obtain ⟨nX2, hn⟩ := and_e hn
  obtain ⟨nM2, hn⟩ := and_e hn
  obtain ⟨nC0, hn⟩ := and_e hn
  obtain ⟨nC1, nC2⟩ := and_e hn
  obtain ⟨wV, eV⟩ := exa_v nE
  obtain ⟨wH, ew0⟩ := exa_v nX0
  obtain ⟨wS, ew1⟩ := exa_v nX1
  obtain ⟨wR, ew2⟩ := exa_v nX2
  have S_V := Sta.start eV (Or.inr ⟨(hw _ (List.mem_of_getElem? (i := 2) rfl)), (hw _ (List.mem_of_getElem? (i := 8) rfl))⟩)
  have S_1 := Sta.start ew0 (Or.inr ⟨(hw _ (List.mem_of_getElem? (i := 2) rfl)), (hw _ (List.mem_of_getElem? (i := 16) rfl))⟩)
  have S_2 := Sta.start ew1 (Or.inr ⟨(hw _ (List.mem_of_getElem? (i := 2) rfl)), (hw _ (List.mem_of_getElem? (i := 17) rfl))⟩)
  have S_3 := Sta.start ew2 (Or.inr ⟨(hw _ (List.mem_of_getElem? (i := 2) rfl)), (hw _ (List.mem_of_getElem? (i := 18) rfl))⟩)
  have E_V := Exa.start eV nE
  obtain ⟨cl, Ar⟩ := Arr.start eV nA
  have hat : s.arrayAt? wV = some cl := Arr.fin (Vm.Alike.refl _) Ar
  have hlen := own_eqi nL
  have hsz := own_len hlen eV hat
  have el0 := own_eqr nM0 ew0
  have sl0 := (elem_in el0 eV (Term.int_eval (0)) Ar.1).2
  have el1 := own_eqr nM1 ew1
  have sl1 := (elem_in el1 eV (Term.int_eval (1)) Ar.1).2
  have el2 := own_eqr nM2 ew2
  have sl2 := (elem_in el2 eV (Term.int_eval (2)) Ar.1).2
  have V_V : Arv s s.heap wV cl.cls (.object "com/example/leafweight/leafweight/BlockType") (3 : Int32) [(.ref wH), (.ref wS), (.ref wR)] .null := Arv.start hfit Ar hsz.1 hsz.2 (by decide) rfl ⟨sl0, sl1, sl2, trivial⟩
  have F_1 := Fld.start ((fld_at ew0).symm.trans (own_eqi nC0))
  have F_2 := Fld.start ((fld_at ew1).symm.trans (own_eqi nC1))
  have F_3 := Fld.start ((fld_at ew2).symm.trans (own_eqi nC2))
  obtain ⟨n, o, h1, h2, h3, _, L, rfl, ⟨rfl, N⟩, hq⟩ := rm0 l s _ hw tables_1 i0 i1 wV wH wS wR cl.cls s.heap s.heap.size (Nat.le_refl _) S_V V_V E_V F_1 F_2 F_3 S_1 S_2 S_3 p e ha hc hk s m _ below hf ((Spec.applies_iff_loose hf).mp happ).1 ⟨rfl, State.Warmed39.refl s, rfl⟩ trivial
  refine ⟨n, _, h1, h2, h3, hpost _ _ _ _ _ _ ⟨Cond.after_iff.mpr rfl, Cond.after_iff.mpr (eq_i res_at (Term.int_eval (1)) rfl), trivial⟩ ⟨hq.1, hq.2.1, (hq.2.2.sift fun y hy => Or.inr (N y hy)).mono (by decide) (by decide)⟩⟩
theorem main_1_1 : Claimed_1_1 := comes_1 fun _ _ _ _ _ _ h hF => ⟨h.1, hF⟩
theorem main_1_2 : Claimed_1_2 := comes_1 fun _ _ _ _ _ _ h hF => ⟨h.2.1, hF⟩
end Jvm.Pilot.@@N@@
namespace Jvm.Pilot.@@N@@
open Jvm Jvm.ClassFile Sem Op Lib Jvm.Free Jvm.Stand Jvm.Pilot.@@N@@.Jvm.D
/-! MADE BY PROGRAM (witnessworld.py) out of the Statement's table words and the real class files: 13 classes; the members and pool entries that the words name. The judged class is class 1, her method 1. -/
namespace start1
open Jvm.ClassFile
def u (s : String) : CpInfo := .utf8 (stringToUtf16 s)
/-- a pool by its gaps: so many unusable entries, then the entry; so many at the end -/
def gap : Nat → List CpInfo → List CpInfo
  | 0, r => r
  | n + 1, r => .unusable :: gap n r
def poolList (es : List (Nat × CpInfo)) (last : Nat) : List CpInfo := es.foldr (fun e r => gap e.1 (e.2 :: r)) (gap last [])
def pool (es : List (Nat × CpInfo)) (last : Nat) : Array CpInfo := ⟨poolList es last⟩
def fileOf (pool : Array CpInfo) (this : Nat) (attrs : Array Attribute := #[]) (ms : Array MethodInfo := #[]) (fl : Nat := 33) (sup : Nat := 0) (ifs : Array Nat := #[]) (fds : Array FieldInfo := #[]) : ClassFile where
  minorVersion := 0
  majorVersion := 65
  constantPool := pool
  accessFlags := fl
  thisClass := this
  superClass := sup
  interfaces := ifs
  fields := fds
  methods := ms
  attributes := attrs
def plain (name : String) (sup : Option ClassId) : Class where
  name := name
  kind := .ordinary
  loader := none
  accessFlags := 33
  super := sup
  interfaces := #[]
  cf := none
  fields := #[]
  methods := #[]
  instanceTypes := #[]
  staticTypes := #[]
  resolved := #[]
  callSites := []
  init := .initialized
  statics := none
  mirror := none

def pool0 : Array CpInfo := pool [(5, u "<init>"), (0, u "()V"), (1, .class_ 10), (1, u "java/lang/Object"), (85, u "clone"), (0, u "()Ljava/lang/Object;")] 26

def k0m0 : Method := { name := "<init>", desc := "()V", sig := { parameters := [], returnType := none }, accessFlags := 1, code := none }
def k0m1 : Method := { name := "clone", desc := "()Ljava/lang/Object;", sig := { parameters := [], returnType := some (.object "java/lang/Object") }, accessFlags := 260, code := none }
/-- java/lang/Object -/
def k0 : Class := { plain "java/lang/Object" none with
  accessFlags := 33
  interfaces := #[]
  cf := some (fileOf pool0 8 #[] #[{ accessFlags := 1, nameIndex := 5, descriptorIndex := 6, attributes := #[] }, { accessFlags := 260, nameIndex := 96, descriptorIndex := 97, attributes := #[] }] 33 0 #[] #[])
  fields := #[]
  methods := #[k0m0, k0m1]
  instanceTypes := #[]
  staticTypes := #[]
  resolved := Array.replicate 124 none
  statics := none }

def pool1 : Array CpInfo := pool [(2, .class_ 4), (1, u "java/lang/Object"), (0, u "<init>"), (0, u "()V"), (0, .fieldref 8 9), (0, .class_ 10), (0, .nameAndType 11 12), (0, u "com/example/leafweight/leafweight/BlockType"), (0, u "HUFFMAN"), (0, u "Lcom/example/leafweight/leafweight/BlockType;"), (0, .fieldref 8 14), (0, .nameAndType 15 12), (0, u "STORED"), (0, .fieldref 8 17), (0, .nameAndType 18 12), (0, u "RUN"), (0, .methodref 8 20), (0, .nameAndType 21 22), (0, u "of"), (0, u "(I)Lcom/example/leafweight/leafweight/BlockType;"), (0, .class_ 24), (0, u "com/example/leafweight/leafweight/BlockTypeOfPinLaw"), (2, u "law"), (0, u "(II)Z")] 3

def k1m0 : Method := { name := "<init>", desc := "()V", sig := { parameters := [], returnType := none }, accessFlags := 1, code := none }
def k1c1 : Code := { maxStack := 2, maxLocals := 5, code := code, exceptionTable := #[], attributes := #[] }
def k1m1 : Method := { name := "law", desc := "(II)Z", sig := { parameters := [.int, .int], returnType := some .boolean }, accessFlags := 9, code := some k1c1 }
/-- com/example/leafweight/leafweight/BlockTypeOfPinLaw -/
def k1 : Class := { plain "com/example/leafweight/leafweight/BlockTypeOfPinLaw" (some 0) with
  accessFlags := 49
  interfaces := #[]
  cf := some (fileOf pool1 23 #[] #[{ accessFlags := 1, nameIndex := 5, descriptorIndex := 6, attributes := #[] }, { accessFlags := 9, nameIndex := 27, descriptorIndex := 28, attributes := #[] }] 49 2 #[] #[])
  fields := #[]
  methods := #[k1m0, k1m1]
  instanceTypes := #[]
  staticTypes := #[]
  resolved := Array.replicate 32 none
  statics := none }

def pool2 : Array CpInfo := pool [(1, .class_ 2), (0, u "java/lang/constant/Constable"), (0, .class_ 4), (0, u "java/lang/Object")] 6

/-- java/lang/constant/Constable -/
def k2 : Class := { plain "java/lang/constant/Constable" (some 0) with
  accessFlags := 1537
  interfaces := #[]
  cf := some (fileOf pool2 1 #[] #[] 1537 3 #[] #[])
  fields := #[]
  methods := #[]
  instanceTypes := #[]
  staticTypes := #[]
  resolved := Array.replicate 11 none
  statics := none }

def pool3 : Array CpInfo := pool [(1, .class_ 2), (0, u "java/lang/Comparable"), (0, .class_ 4), (0, u "java/lang/Object")] 7

/-- java/lang/Comparable -/
def k3 : Class := { plain "java/lang/Comparable" (some 0) with
  accessFlags := 1537
  interfaces := #[]
  cf := some (fileOf pool3 1 #[] #[] 1537 3 #[] #[])
  fields := #[]
  methods := #[]
  instanceTypes := #[]
  staticTypes := #[]
  resolved := Array.replicate 12 none
  statics := none }

def pool4 : Array CpInfo := pool [(1, .class_ 2), (0, u "java/io/Serializable"), (0, .class_ 4), (0, u "java/lang/Object")] 2

/-- java/io/Serializable -/
def k4 : Class := { plain "java/io/Serializable" (some 0) with
  accessFlags := 1537
  interfaces := #[]
  cf := some (fileOf pool4 1 #[] #[] 1537 3 #[] #[])
  fields := #[]
  methods := #[]
  instanceTypes := #[]
  staticTypes := #[]
  resolved := Array.replicate 7 none
  statics := none }

def pool5 : Array CpInfo := pool [(2, .class_ 4), (1, u "java/lang/Enum"), (0, u "name"), (0, u "Ljava/lang/String;"), (2, u "ordinal"), (0, u "I"), (1, .class_ 14), (1, u "java/lang/Object"), (4, u "hash"), (86, .class_ 108), (1, u "java/lang/Enum$EnumDesc"), (2, .class_ 112), (0, u "java/lang/constant/Constable"), (0, .class_ 114), (0, u "java/lang/Comparable"), (0, .class_ 116), (0, u "java/io/Serializable")] 87

/-- java/lang/Enum -/
def k5 : Class := { plain "java/lang/Enum" (some 0) with
  accessFlags := 1057
  interfaces := #[2, 3, 4]
  cf := some (fileOf pool5 2 #[.nestMembers #[106]] #[] 1057 12 #[111, 113, 115] #[{ accessFlags := 18, nameIndex := 5, descriptorIndex := 6, attributes := #[] }, { accessFlags := 18, nameIndex := 9, descriptorIndex := 10, attributes := #[] }, { accessFlags := 2, nameIndex := 19, descriptorIndex := 10, attributes := #[] }])
  fields := #[{ name := "name", type := (.object "java/lang/String"), accessFlags := 18, slot := 0, constantValue := 0 }, { name := "ordinal", type := .int, accessFlags := 18, slot := 1, constantValue := 0 }, { name := "hash", type := .int, accessFlags := 2, slot := 2, constantValue := 0 }]
  methods := #[]
  instanceTypes := #[(.object "java/lang/String"), .int, .int]
  staticTypes := #[]
  resolved := Array.replicate 204 none
  statics := none }

def pool6 : Array CpInfo := pool [(1, .class_ 2), (0, u "com/example/leafweight/leafweight/BlockType"), (2, u "HUFFMAN"), (0, u "Lcom/example/leafweight/leafweight/BlockType;"), (2, u "STORED"), (2, u "RUN"), (0, .fieldref 1 14), (0, .nameAndType 15 16), (0, u "$VALUES"), (0, u "[Lcom/example/leafweight/leafweight/BlockType;"), (0, .methodref 18 19), (0, .class_ 16), (0, .nameAndType 20 21), (0, u "clone"), (0, u "()Ljava/lang/Object;"), (1, .class_ 25), (1, u "java/lang/Enum"), (6, .fieldref 1 33), (0, .nameAndType 34 35), (0, u "code"), (0, u "I"), (2, u "label"), (0, u "Ljava/lang/String;"), (0, .methodref 1 41), (0, .nameAndType 42 43), (0, u "values"), (0, u "()[Lcom/example/leafweight/leafweight/BlockType;"), (31, u "of"), (0, u "(I)Lcom/example/leafweight/leafweight/BlockType;")] 5

def k6c0 : Code := { maxStack := 1, maxLocals := 0, code := prog_15_method_1_code, exceptionTable := #[], attributes := #[] }
def k6m0 : Method := { name := "values", desc := "()[Lcom/example/leafweight/leafweight/BlockType;", sig := { parameters := [], returnType := some (.array (.object "com/example/leafweight/leafweight/BlockType")) }, accessFlags := 9, code := some k6c0 }
def k6c1 : Code := { maxStack := 2, maxLocals := 5, code := prog_15_method_7_code, exceptionTable := #[], attributes := #[] }
def k6m1 : Method := { name := "of", desc := "(I)Lcom/example/leafweight/leafweight/BlockType;", sig := { parameters := [.int], returnType := some (.object "com/example/leafweight/leafweight/BlockType") }, accessFlags := 8, code := some k6c1 }
/-- com/example/leafweight/leafweight/BlockType -/
def k6 : Class := { plain "com/example/leafweight/leafweight/BlockType" (some 5) with
  accessFlags := 16432
  interfaces := #[]
  cf := some (fileOf pool6 1 #[] #[{ accessFlags := 9, nameIndex := 42, descriptorIndex := 43, attributes := #[] }, { accessFlags := 8, nameIndex := 75, descriptorIndex := 76, attributes := #[] }] 16432 23 #[] #[{ accessFlags := 16409, nameIndex := 5, descriptorIndex := 6, attributes := #[] }, { accessFlags := 16409, nameIndex := 9, descriptorIndex := 6, attributes := #[] }, { accessFlags := 16409, nameIndex := 12, descriptorIndex := 6, attributes := #[] }, { accessFlags := 18, nameIndex := 34, descriptorIndex := 35, attributes := #[] }, { accessFlags := 18, nameIndex := 38, descriptorIndex := 39, attributes := #[] }, { accessFlags := 4122, nameIndex := 15, descriptorIndex := 16, attributes := #[] }])
  fields := #[{ name := "HUFFMAN", type := (.object "com/example/leafweight/leafweight/BlockType"), accessFlags := 16409, slot := 0, constantValue := 0 }, { name := "STORED", type := (.object "com/example/leafweight/leafweight/BlockType"), accessFlags := 16409, slot := 1, constantValue := 0 }, { name := "RUN", type := (.object "com/example/leafweight/leafweight/BlockType"), accessFlags := 16409, slot := 2, constantValue := 0 }, { name := "code", type := .int, accessFlags := 18, slot := 3, constantValue := 0 }, { name := "label", type := (.object "java/lang/String"), accessFlags := 18, slot := 4, constantValue := 0 }, { name := "$VALUES", type := (.array (.object "com/example/leafweight/leafweight/BlockType")), accessFlags := 4122, slot := 3, constantValue := 0 }]
  methods := #[k6m0, k6m1]
  instanceTypes := #[(.object "java/lang/String"), .int, .int, .int, (.object "java/lang/String")]
  staticTypes := #[(.object "com/example/leafweight/leafweight/BlockType"), (.object "com/example/leafweight/leafweight/BlockType"), (.object "com/example/leafweight/leafweight/BlockType"), (.array (.object "com/example/leafweight/leafweight/BlockType"))]
  resolved := Array.replicate 82 none
  statics := some 0 }

def pool7 : Array CpInfo := pool [(1, .class_ 2), (0, u "java/lang/Cloneable"), (0, .class_ 4), (0, u "java/lang/Object")] 2

/-- java/lang/Cloneable -/
def k7 : Class := { plain "java/lang/Cloneable" (some 0) with
  accessFlags := 1537
  interfaces := #[]
  cf := some (fileOf pool7 1 #[] #[] 1537 3 #[] #[])
  fields := #[]
  methods := #[]
  instanceTypes := #[]
  staticTypes := #[]
  resolved := Array.replicate 7 none
  statics := none }

/-- the primitive byte -/
def k8 : Class := { plain "byte" none with kind := .primitive 'B', accessFlags := 0x411 }
/-- [B -/
def k9 : Class := { plain "[B" (some 0) with kind := .array 8 .byte, interfaces := #[7, 4], accessFlags := 1041 }

/-- the primitive int -/
def k10 : Class := { plain "int" none with kind := .primitive 'I', accessFlags := 0x411 }
/-- [I -/
def k11 : Class := { plain "[I" (some 0) with kind := .array 10 .int, interfaces := #[7, 4], accessFlags := 1041 }

/-- [Lcom/example/leafweight/leafweight/BlockType; -/
def k12 : Class := { plain "[Lcom/example/leafweight/leafweight/BlockType;" (some 0) with kind := .array 6 (.object "com/example/leafweight/leafweight/BlockType"), interfaces := #[7, 4], accessFlags := 1041 }

def heap : Heap := #[{ cls := 6, slots := #[.ref 2, .ref 3, .ref 4, .ref 1], vm := .statics 6 },
  { cls := 12, slots := #[.ref 2, .ref 3, .ref 4], vm := .none },
  { cls := 6, slots := #[.null, .int 0, .int 0, .int 1, .null], vm := .none },
  { cls := 6, slots := #[.null, .int 1, .int 0, .int 2, .null], vm := .none },
  { cls := 6, slots := #[.null, .int 2, .int 0, .int 3, .null], vm := .none }]
def classes : Array Class := #[k0, k1, k2, k3, k4, k5, k6, k7, k8, k9, k10, k11, k12]
def interned : List (Array UInt16 × Addr) := []
def slotsUsed : Nat := 22
def theMethod : MethodId := ⟨1, 1⟩
def args0 : Array Value := #[.int 5, .int 9]
def aboutOver (below : List Frame) : State where
  vm := { classes := classes, interned := interned.toArray }
  heap := heap
  slotsUsed := slotsUsed
  threads := #[{ frames := .invoking theMethod args0 :: below }]
def below0 : List Frame := [.native { method := ⟨0, 0⟩, args := #[] }]
def about1 : State := aboutOver below0
def p0 : Program := .bare "" "" ""
def e0 : Env := launch0.env 0 0 0
theorem w_frames : about1.frames = Frame.invoking theMethod args0 :: below0 := rfl
set_option maxRecDepth 65536 in
theorem w_args : argsFit about1.vm theMethod args0 = true := by decide +kernel
set_option maxRecDepth 65536 in
theorem w_heap : heapFits about1 = true := by decide +kernel
set_option maxRecDepth 65536 in
theorem w_runnable : about1.curStatus? = some .runnable := by decide +kernel
set_option maxRecDepth 65536 in
theorem w_alone : about1.alone = true := by decide +kernel
set_option maxRecDepth 65536 in
theorem w_named : about1.methodNamed? x = some theMethod := by decide +kernel
set_option maxRecDepth 65536 in
theorem w_hears : about1.hears theMethod below0 = true := by decide +kernel
set_option maxRecDepth 65536 in
theorem w_ripe : about1.ripe theMethod args0 below0 = true := by decide +kernel
theorem w_running : about1.status = .running := rfl
set_option maxRecDepth 65536 in
theorem w_room : about1.hasRoom e0.platform room_1 = true :=
  launch0.hasRoom_least _ room_1 (by decide +kernel) (by decide +kernel) (by decide +kernel) (by decide +kernel) (by decide +kernel) (by decide +kernel)
theorem allAtoms_all (ts : List Jvm.Cond) (a : Array Jvm.Value) (st : Jvm.State) : (allAtoms ts).before a st = ts.all (fun c => c.before a st) := by
  induction ts with
  | nil => rfl
  | cons c t ih =>
    show (Jvm.Cond.and c (allAtoms t)).before a st = _
    rw [Jvm.Cond.before_and, ih, List.all_cons]
def words1 : List Jvm.Cond := Jvm.Cond.code x code maxLocals ret :: tables_1
/-- a 'code' word, met by the world's own term for the bytes: nothing is compared byte by byte -/
theorem code_word {y : MethodName} {bytes : ByteArray} {mx : Nat} {rt : Option FieldType} {a : Array Value} {s : State} {m : MethodId} {meth : Method} {c : Code} (h1 : s.methodNamed? y = some m) (h2 : s.vm.method? m = some meth) (h3 : meth.code = some c) (h4 : c.code = bytes)
    (h5 : (c.maxLocals == mx && c.exceptionTable.isEmpty && decide (c.maxStack ≤ mostOperands) && decide (meth.sig.returnType = rt) && !meth.locks && decide (parseMethodDescriptor y.desc = some meth.sig)) = true) : (Jvm.Cond.code y bytes mx rt).before a s = true := by
  simp only [Bool.and_eq_true, beq_iff_eq, Bool.not_eq_true', decide_eq_true_eq] at h5
  obtain ⟨⟨⟨⟨⟨g1, g2⟩, g3⟩, g4⟩, g5⟩, g6⟩ := h5
  simp [Cond.before, Cond.holds, Cond.value, h1, h2, h3, h4, g1, g2, g3, g4, g5, g6]
def isCode : Jvm.Cond → Bool
  | .code _ _ _ _ => true
  | _ => false
theorem all_split {L : List Jvm.Cond} {P : Jvm.Cond → Bool} (h1 : L.all (fun c => isCode c || P c) = true) (h2 : ∀ c ∈ L.filter isCode, P c = true) : L.all P = true := by
  refine List.all_eq_true.mpr fun c hc => ?_
  have h := List.all_eq_true.mp h1 c hc
  rcases Bool.eq_false_or_eq_true (isCode c) with hi | hi
  · exact h2 c (List.mem_filter.mpr ⟨hc, hi⟩)
  · simpa [hi] using h
set_option maxRecDepth 65536 in
theorem w_c0 : (Jvm.Cond.code x code maxLocals ret).before args0 about1 = true := code_word (m := ⟨1, 1⟩) (meth := k1m1) (c := k1c1) (by decide +kernel) rfl rfl rfl (by decide +kernel)
set_option maxRecDepth 65536 in
theorem w_c1 : (Jvm.Cond.code ({ cls := "com/example/leafweight/leafweight/BlockType", name := "of", desc := "(I)Lcom/example/leafweight/leafweight/BlockType;" } : Jvm.MethodName) prog_15_method_7_code (5 : Nat) (Option.some (Jvm.ClassFile.FieldType.object "com/example/leafweight/leafweight/BlockType"))).before args0 about1 = true := code_word (m := ⟨6, 1⟩) (meth := k6m1) (c := k6c1) (by decide +kernel) rfl rfl rfl (by decide +kernel)
set_option maxRecDepth 65536 in
theorem w_c2 : (Jvm.Cond.code ({ cls := "com/example/leafweight/leafweight/BlockType", name := "values", desc := "()[Lcom/example/leafweight/leafweight/BlockType;" } : Jvm.MethodName) prog_15_method_1_code (0 : Nat) (Option.some (Jvm.ClassFile.FieldType.array (Jvm.ClassFile.FieldType.object "com/example/leafweight/leafweight/BlockType")))).before args0 about1 = true := code_word (m := ⟨6, 0⟩) (meth := k6m0) (c := k6c0) (by decide +kernel) rfl rfl rfl (by decide +kernel)
def codes1 : List Jvm.Cond := [Jvm.Cond.code x code maxLocals ret, Jvm.Cond.code ({ cls := "com/example/leafweight/leafweight/BlockType", name := "of", desc := "(I)Lcom/example/leafweight/leafweight/BlockType;" } : Jvm.MethodName) prog_15_method_7_code (5 : Nat) (Option.some (Jvm.ClassFile.FieldType.object "com/example/leafweight/leafweight/BlockType")), Jvm.Cond.code ({ cls := "com/example/leafweight/leafweight/BlockType", name := "values", desc := "()[Lcom/example/leafweight/leafweight/BlockType;" } : Jvm.MethodName) prog_15_method_1_code (0 : Nat) (Option.some (Jvm.ClassFile.FieldType.array (Jvm.ClassFile.FieldType.object "com/example/leafweight/leafweight/BlockType")))]
set_option maxRecDepth 65536 in
theorem codes_eq : words1.filter isCode = codes1 := rfl
theorem w_codes : ∀ c ∈ words1.filter isCode, c.before args0 about1 = true := by
  rw [codes_eq]
  intro c hc
  simp only [codes1, List.mem_cons, List.not_mem_nil, or_false] at hc
  rcases hc with rfl | rfl | rfl
  · exact w_c0
  · exact w_c1
  · exact w_c2
set_option maxRecDepth 65536 in
theorem w_t1 : (words1.take 24).all (fun c => isCode c || c.before args0 about1) = true := by decide +kernel
set_option maxRecDepth 65536 in
theorem w_t2 : (words1.drop 24).all (fun c => isCode c || c.before args0 about1) = true := by decide +kernel
theorem w_tables : (allAtoms (Jvm.Cond.code x code maxLocals ret :: tables_1)).before args0 about1 = true := by
  rw [allAtoms_all]
  show words1.all (fun c => c.before args0 about1) = true
  refine all_split ?_ w_codes
  rw [← List.take_append_drop 24 words1, List.all_append, w_t1, w_t2]
  rfl
set_option maxRecDepth 65536 in
theorem w_case : (Jvm.Cond.and given_1 narrow_1).before args0 about1 = true := by decide +kernel
theorem w_applies : (headSpec (Jvm.Cond.code x code maxLocals ret :: tables_1) room_1).applies x e0.platform about1 = true :=
  (Spec.applies_iff w_frames).mpr ⟨w_running, w_runnable, w_alone, w_named, w_hears, w_ripe, w_room, w_tables⟩
theorem atStart : AtStart classFile x code maxLocals ret World_1 tables_1 room_1 Calls_1 rest_1 Pre_1 launch0 p0 e0 about1 theMethod args0 below0 :=
  ⟨lists_1, trivial, launch0.admits_env _ _ _, launch0.least_env, fairChoices_fair.cas, fairChoices_fair.clock, w_frames, w_args, w_heap, w_applies, trivial, trivial, w_case⟩
end start1
theorem witness_1 : WitnessClaimed_1 := ⟨start1.p0, start1.e0, start1.about1, start1.theMethod, start1.args0, start1.below0, start1.atStart⟩
end Jvm.Pilot.@@N@@

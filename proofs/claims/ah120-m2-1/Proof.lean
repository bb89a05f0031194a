import JvmDerived
import JvmDerived.Pilot.@@N@@Statement
import JvmDerived.Pilot.@@N@@Code
set_option linter.unusedVariables false
set_option linter.unusedSimpArgs false
namespace Jvm.RoadKit
open Sem ClassFile Op Lib Jvm.Stand Jvm.Free Jvm.LawKit
section New
variable {p : Program} {l : Launch} {e : Env} {R : Room} {s : State} {m : MethodId} {args : Array Value} {below : List Frame} {meth : Method} {c : Code} {T : State} {locs : List Loc} {cells slots : Nat}
theorem retI (X : Stand p l e R s m args below meth c T locs cells slots) (hx : p.tables.exec = Jvm.exec) {pc : Nat} {Ls : Array Slot} {z : Int32} {rest : List Value} (hret : meth.sig.returnType = some .int) (hd : decode c.code pc = .ok (.ireturn, 1)) {fs : List Frame}
    (hl : ∀ (f : JFrame) (acts : List Action), f.method = m → f.locked = none → f.entered = [] → (doReturn e (T.setTop f) acts (some (.int z))).1 = T.setFrames fs) : Steps p.tables e below (T.setTop (mkF m pc Ls (.int z :: rest))) (T.setFrames fs) := by
  have hm' : T.vm.method? m = some meth := X.method'
  have hn : narrow .int (.int z) = .int z := rfl
  show Steps p.tables e below (T.setTop { method := m, pc := pc, locals := Ls, stack := _ :: rest, locked := none }) _
  jvm_step X.here [X.here.top, hx, hd, hm', hret, hn]
  first | (intro acts; rw [hl _ acts rfl rfl rfl]) | rw [hl _ _ rfl rfl rfl]
  exact Steps.refl _
end New
end Jvm.RoadKit
namespace Jvm.Pilot.@@N@@
open Jvm Jvm.ClassFile Sem Op Lib Jvm.Free Jvm.Stand Jvm.LawKit Jvm.RoadKit Bundle Jvm.Pilot.@@N@@.Jvm.D
theorem own_rmono {s t : State} {o : Outcome} {L : List Loc} {k n k' n' : Nat} (h : ReturnedEndW s o t L k n) (hk : k ≤ k') (hn : n ≤ n') : ReturnedEndW s o t L k' n' := ⟨h.1, h.2.1, h.2.2.1, h.2.2.2.mono hk hn⟩
theorem d1_0 : decode method_2_code 0 = .ok (.iload_n 0, 1) := by decide +kernel
theorem d1_1 : decode method_2_code 1 = .ok (.ifCond .ne 7, 3) := by decide +kernel
theorem d1_4 : decode method_2_code 4 = .ok (.getstatic 7, 3) := by decide +kernel
theorem d1_7 : decode method_2_code 7 = .ok (.areturn, 1) := by decide +kernel
theorem d1_8 : decode method_2_code 8 = .ok (.iload_n 0, 1) := by decide +kernel
theorem d1_9 : decode method_2_code 9 = .ok (.iconst 1, 1) := by decide +kernel
theorem d1_10 : decode method_2_code 10 = .ok (.if_icmp .ne 7, 3) := by decide +kernel
theorem d1_13 : decode method_2_code 13 = .ok (.getstatic 13, 3) := by decide +kernel
theorem d1_16 : decode method_2_code 16 = .ok (.areturn, 1) := by decide +kernel
theorem d1_17 : decode method_2_code 17 = .ok (.getstatic 16, 3) := by decide +kernel
theorem d1_20 : decode method_2_code 20 = .ok (.areturn, 1) := by decide +kernel
theorem pn_1 : plainName "com/example/novation/novation/model/SeriesKindChangesPinLaw" = true := by first | (simp [plainName, overriddenIn]; done) | decide +kernel
theorem pd_0 : parseMethodDescriptor "(I)Lcom/example/novation/novation/model/SeriesKind;" = some ⟨[.int], some (.object "com/example/novation/novation/model/SeriesKind")⟩ := by decide +kernel
theorem pd_1 : parseMethodDescriptor "()Ljava/lang/String;" = some ⟨[], some (.object "java/lang/String")⟩ := by decide +kernel
theorem pd_2 : parseMethodDescriptor "(Ljava/lang/Object;)Z" = some ⟨[(.object "java/lang/Object")], some .boolean⟩ := by decide +kernel
theorem pd_3 : parseMethodDescriptor "()Z" = some ⟨[], some .boolean⟩ := by decide +kernel
theorem pd_4 : parseMethodDescriptor "([B[B)Z" = some ⟨[(.array .byte), (.array .byte)], some .boolean⟩ := by decide +kernel
theorem ef_1 (m : MethodId) (x0 : Int32) : entryFrame m #[(.int x0)] 1 = mkF m 0 #[.val (.int x0)] [] := by first | (simp [entryFrame, mkF, argsToLocals, Value.category]; done) | rfl
def Q1_p (w : Addr) (h0 : Heap) (n0 : Nat) (v : Option Value) (h : Heap) (L : List Loc) : Prop := v = some (.ref w) ∧ Fr n0 L ∧ h = h0
set_option maxRecDepth 65536 in
set_option maxHeartbeats 40000000 in
theorem rm1_p (l : Launch) (Z : State) (aZ : Array Value) (hw : ∀ d ∈ tables_1, d.before aZ Z = true) (ws : List Jvm.Cond) (w : Addr) (h0 : Heap) (n0 : Nat) (Z0 : n0 ≤ h0.size) (S_w : Sta Z h0 "com/example/novation/novation/model/SeriesKind" "PRICE" "Lcom/example/novation/novation/model/SeriesKind;" (.ref w)) :
    MetFree l (⟨"com/example/novation/novation/model/SeriesKindChangesPinLaw", "pick", "(I)Lcom/example/novation/novation/model/SeriesKind;"⟩ : MethodName) (head1 (Jvm.Cond.code (⟨"com/example/novation/novation/model/SeriesKindChangesPinLaw", "pick", "(I)Lcom/example/novation/novation/model/SeriesKind;"⟩ : MethodName) method_2_code 1 (some (.object "com/example/novation/novation/model/SeriesKind")) :: ws) ({ frames := 0, cells := 0, slots := 0, locals := 0 } : Room)) (fun a U => a = #[(.int (0 : Int32))] ∧ Z.Warmed39 U.vm ∧ U.heap = h0) (fun _ _ _ _ _ => True) (fun _ U oc U' => ∃ v L, oc = .returned v ∧ Q1_p w h0 n0 v U'.heap L ∧ FrameEnd U oc U' L ({ frames := 0, cells := 0, slots := 0, locals := 0 } : Room).cells ({ frames := 0, cells := 0, slots := 0, locals := 0 } : Room).slots) := by
  refine MetFree.of_bodySF (plainFor_of_name pn_1) hisR ?_
  intro p e s m args below meth c s₁ Bd hml0 hP hK
  obtain ⟨rfl, hZ, hh⟩ := hP
  have hx := Bd.exec
  have hby := Bd.bytes
  have hml : c.maxLocals = 1 := hml0
  have hown : s.vm.findClass "com/example/novation/novation/model/SeriesKindChangesPinLaw" = some m.cls := findClass_of_methodNamed Bd.named
  have hnm := (name_of_methodNamed Bd.named Bd.method).1
  have X0 : Stand p l e ({ frames := 0, cells := 0, slots := 0, locals := 0 } : Room) s m #[(.int (0 : Int32))] below meth c s₁ [] 0 0 := Stand.of_body Bd
  have e0 : s₁.heap = h0 := by rw [← hh, Bd.state]; rfl
  have N0 := Fr.nil n0
  have pre0 : ∀ t, Steps p.tables e below (s₁.setTop (mkF m 0 #[.val (.int (0 : Int32))] [])) t → Steps p.tables e below (s₁.setTop (entryFrame m #[(.int (0 : Int32))] 1)) t := fun t kt => castTop (ef_1 m (0 : Int32)) kt
  have pre1 : ∀ t, Steps p.tables e below (s₁.setTop (mkF m 1 #[.val (.int (0 : Int32))] [(.int (0 : Int32))])) t → Steps p.tables e below (s₁.setTop (entryFrame m #[(.int (0 : Int32))] 1)) t := fun t kt => by
    refine pre0 _ ?_
    show Steps p.tables e below (s₁.setTop (mkF m 0 #[.val (.int (0 : Int32))] [])) _
    refine XS.iloadN X0.here hx rfl (hb hby d1_0) rfl ?_
    show Steps p.tables e below (s₁.setTop (mkF m 1 #[.val (.int (0 : Int32))] [(.int (0 : Int32))])) _
    exact kt
  have pre2 : ∀ t, Steps p.tables e below (s₁.setTop (mkF m 4 #[.val (.int (0 : Int32))] [])) t → Steps p.tables e below (s₁.setTop (entryFrame m #[(.int (0 : Int32))] 1)) t := fun t kt => by
    refine pre1 _ ?_
    show Steps p.tables e below (s₁.setTop (mkF m 1 #[.val (.int (0 : Int32))] [(.int (0 : Int32))])) _
    refine XS.ifNo X0.here hx rfl (hb hby d1_1) rfl ((if0 _ _).trans (teq (by decide : (0 : Int32) = (0 : Int32))).2) ?_
    show Steps p.tables e below (s₁.setTop (mkF m 4 #[.val (.int (0 : Int32))] [])) _
    exact kt
  obtain ⟨T4, X4, e4, st4⟩ := getS2 X0 hx hZ hown (host := "") (Or.inl (hw _ (List.mem_of_getElem? (i := 5) rfl))) Via.refl e0 S_w (g := (mkF m 4 #[.val (.int (0 : Int32))] [])) rfl (hb hby d1_4)
  have pre4 : ∀ t, Steps p.tables e below (T4.setTop (mkF m 7 #[.val (.int (0 : Int32))] [(.ref w)])) t → Steps p.tables e below (s₁.setTop (entryFrame m #[(.int (0 : Int32))] 1)) t := fun t kt => pre2 _ (st4 t kt)
  obtain ⟨fs, hr, hrun, hended, hW, hsame⟩ := X4.leave (v := some (.ref w)) (fun h => by rw [Bd.returns] at h; cases h)
  refine ⟨_, _, pre4 _ ?_, hrun, hended, _, _, rfl, ?_, ⟨_, rfl⟩, hW, hsame.mono (by decide) (by decide)⟩
  · show Steps p.tables e below (T4.setTop (mkF m 7 #[.val (.int (0 : Int32))] [(.ref w)])) _
    jvm_step X4.here [X4.here.top, hx, (hb hby d1_7), X4.method', Bd.returns, Value.isRef, FieldType.isReference]
    first | (intro acts; rw [hr _ acts rfl rfl rfl]) | rw [hr _ _ rfl rfl rfl]
    exact Steps.refl _
  · show Q1_p w h0 n0 _ T4.heap _
    rw [e4]
    exact ⟨rfl, N0, rfl⟩
def Q1_r (w : Addr) (h0 : Heap) (n0 : Nat) (v : Option Value) (h : Heap) (L : List Loc) : Prop := v = some (.ref w) ∧ Fr n0 L ∧ h = h0
set_option maxRecDepth 65536 in
set_option maxHeartbeats 40000000 in
theorem rm1_r (l : Launch) (Z : State) (aZ : Array Value) (hw : ∀ d ∈ tables_1, d.before aZ Z = true) (ws : List Jvm.Cond) (w : Addr) (h0 : Heap) (n0 : Nat) (Z0 : n0 ≤ h0.size) (S_w : Sta Z h0 "com/example/novation/novation/model/SeriesKind" "RATE" "Lcom/example/novation/novation/model/SeriesKind;" (.ref w)) :
    MetFree l (⟨"com/example/novation/novation/model/SeriesKindChangesPinLaw", "pick", "(I)Lcom/example/novation/novation/model/SeriesKind;"⟩ : MethodName) (head1 (Jvm.Cond.code (⟨"com/example/novation/novation/model/SeriesKindChangesPinLaw", "pick", "(I)Lcom/example/novation/novation/model/SeriesKind;"⟩ : MethodName) method_2_code 1 (some (.object "com/example/novation/novation/model/SeriesKind")) :: ws) ({ frames := 0, cells := 0, slots := 0, locals := 0 } : Room)) (fun a U => a = #[(.int (1 : Int32))] ∧ Z.Warmed39 U.vm ∧ U.heap = h0) (fun _ _ _ _ _ => True) (fun _ U oc U' => ∃ v L, oc = .returned v ∧ Q1_r w h0 n0 v U'.heap L ∧ FrameEnd U oc U' L ({ frames := 0, cells := 0, slots := 0, locals := 0 } : Room).cells ({ frames := 0, cells := 0, slots := 0, locals := 0 } : Room).slots) := by
  refine MetFree.of_bodySF (plainFor_of_name pn_1) hisR ?_
  intro p e s m args below meth c s₁ Bd hml0 hP hK
  obtain ⟨rfl, hZ, hh⟩ := hP
  have hx := Bd.exec
  have hby := Bd.bytes
  have hml : c.maxLocals = 1 := hml0
  have hown : s.vm.findClass "com/example/novation/novation/model/SeriesKindChangesPinLaw" = some m.cls := findClass_of_methodNamed Bd.named
  have hnm := (name_of_methodNamed Bd.named Bd.method).1
  have X0 : Stand p l e ({ frames := 0, cells := 0, slots := 0, locals := 0 } : Room) s m #[(.int (1 : Int32))] below meth c s₁ [] 0 0 := Stand.of_body Bd
  have e0 : s₁.heap = h0 := by rw [← hh, Bd.state]; rfl
  have N0 := Fr.nil n0
  have pre0 : ∀ t, Steps p.tables e below (s₁.setTop (mkF m 0 #[.val (.int (1 : Int32))] [])) t → Steps p.tables e below (s₁.setTop (entryFrame m #[(.int (1 : Int32))] 1)) t := fun t kt => castTop (ef_1 m (1 : Int32)) kt
  have pre6 : ∀ t, Steps p.tables e below (s₁.setTop (mkF m 1 #[.val (.int (1 : Int32))] [(.int (1 : Int32))])) t → Steps p.tables e below (s₁.setTop (entryFrame m #[(.int (1 : Int32))] 1)) t := fun t kt => by
    refine pre0 _ ?_
    show Steps p.tables e below (s₁.setTop (mkF m 0 #[.val (.int (1 : Int32))] [])) _
    refine XS.iloadN X0.here hx rfl (hb hby d1_0) rfl ?_
    show Steps p.tables e below (s₁.setTop (mkF m 1 #[.val (.int (1 : Int32))] [(.int (1 : Int32))])) _
    exact kt
  have pre7 : ∀ t, Steps p.tables e below (s₁.setTop (mkF m 8 #[.val (.int (1 : Int32))] [])) t → Steps p.tables e below (s₁.setTop (entryFrame m #[(.int (1 : Int32))] 1)) t := fun t kt => by
    refine pre6 _ ?_
    show Steps p.tables e below (s₁.setTop (mkF m 1 #[.val (.int (1 : Int32))] [(.int (1 : Int32))])) _
    refine XS.ifYes X0.here hx rfl (pc0 := 1) (pc' := 8) rfl (hb hby d1_1) rfl ((if0 _ _).trans (feq (by decide : ¬ ((1 : Int32) = (0 : Int32)))).2) (by decide) (by decide) ?_
    show Steps p.tables e below (s₁.setTop (mkF m 8 #[.val (.int (1 : Int32))] [])) _
    exact kt
  have pre8 : ∀ t, Steps p.tables e below (s₁.setTop (mkF m 10 #[.val (.int (1 : Int32))] [(.int (1 : Int32)), (.int (1 : Int32))])) t → Steps p.tables e below (s₁.setTop (entryFrame m #[(.int (1 : Int32))] 1)) t := fun t kt => by
    refine pre7 _ ?_
    show Steps p.tables e below (s₁.setTop (mkF m 8 #[.val (.int (1 : Int32))] [])) _
    refine XS.iloadN X0.here hx rfl (hb hby d1_8) rfl ?_
    show Steps p.tables e below (s₁.setTop (mkF m 9 #[.val (.int (1 : Int32))] [(.int (1 : Int32))])) _
    refine XS.iconst X0.here hx rfl (hb hby d1_9) ?_
    show Steps p.tables e below (s₁.setTop (mkF m 10 #[.val (.int (1 : Int32))] [(.int (1 : Int32)), (.int (1 : Int32))])) _
    exact kt
  have pre9 : ∀ t, Steps p.tables e below (s₁.setTop (mkF m 13 #[.val (.int (1 : Int32))] [])) t → Steps p.tables e below (s₁.setTop (entryFrame m #[(.int (1 : Int32))] 1)) t := fun t kt => by
    refine pre8 _ ?_
    show Steps p.tables e below (s₁.setTop (mkF m 10 #[.val (.int (1 : Int32))] [(.int (1 : Int32)), (.int (1 : Int32))])) _
    refine XS.icmpNo X0.here hx rfl (hb hby d1_10) rfl (teq (by decide : (1 : Int32) = (1 : Int32))).2 ?_
    show Steps p.tables e below (s₁.setTop (mkF m 13 #[.val (.int (1 : Int32))] [])) _
    exact kt
  obtain ⟨T11, X11, e11, st11⟩ := getS2 X0 hx hZ hown (host := "") (Or.inl (hw _ (List.mem_of_getElem? (i := 50) rfl))) Via.refl e0 S_w (g := (mkF m 13 #[.val (.int (1 : Int32))] [])) rfl (hb hby d1_13)
  have pre11 : ∀ t, Steps p.tables e below (T11.setTop (mkF m 16 #[.val (.int (1 : Int32))] [(.ref w)])) t → Steps p.tables e below (s₁.setTop (entryFrame m #[(.int (1 : Int32))] 1)) t := fun t kt => pre9 _ (st11 t kt)
  obtain ⟨fs, hr, hrun, hended, hW, hsame⟩ := X11.leave (v := some (.ref w)) (fun h => by rw [Bd.returns] at h; cases h)
  refine ⟨_, _, pre11 _ ?_, hrun, hended, _, _, rfl, ?_, ⟨_, rfl⟩, hW, hsame.mono (by decide) (by decide)⟩
  · show Steps p.tables e below (T11.setTop (mkF m 16 #[.val (.int (1 : Int32))] [(.ref w)])) _
    jvm_step X11.here [X11.here.top, hx, (hb hby d1_16), X11.method', Bd.returns, Value.isRef, FieldType.isReference]
    first | (intro acts; rw [hr _ acts rfl rfl rfl]) | rw [hr _ _ rfl rfl rfl]
    exact Steps.refl _
  · show Q1_r w h0 n0 _ T11.heap _
    rw [e11]
    exact ⟨rfl, N0, rfl⟩
def Q1_n (w : Addr) (h0 : Heap) (n0 : Nat) (v : Option Value) (h : Heap) (L : List Loc) : Prop := v = some (.ref w) ∧ Fr n0 L ∧ h = h0
set_option maxRecDepth 65536 in
set_option maxHeartbeats 40000000 in
theorem rm1_n (l : Launch) (Z : State) (aZ : Array Value) (hw : ∀ d ∈ tables_1, d.before aZ Z = true) (ws : List Jvm.Cond) (w : Addr) (h0 : Heap) (n0 : Nat) (Z0 : n0 ≤ h0.size) (S_w : Sta Z h0 "com/example/novation/novation/model/SeriesKind" "PNL" "Lcom/example/novation/novation/model/SeriesKind;" (.ref w)) :
    MetFree l (⟨"com/example/novation/novation/model/SeriesKindChangesPinLaw", "pick", "(I)Lcom/example/novation/novation/model/SeriesKind;"⟩ : MethodName) (head1 (Jvm.Cond.code (⟨"com/example/novation/novation/model/SeriesKindChangesPinLaw", "pick", "(I)Lcom/example/novation/novation/model/SeriesKind;"⟩ : MethodName) method_2_code 1 (some (.object "com/example/novation/novation/model/SeriesKind")) :: ws) ({ frames := 0, cells := 0, slots := 0, locals := 0 } : Room)) (fun a U => a = #[(.int (2 : Int32))] ∧ Z.Warmed39 U.vm ∧ U.heap = h0) (fun _ _ _ _ _ => True) (fun _ U oc U' => ∃ v L, oc = .returned v ∧ Q1_n w h0 n0 v U'.heap L ∧ FrameEnd U oc U' L ({ frames := 0, cells := 0, slots := 0, locals := 0 } : Room).cells ({ frames := 0, cells := 0, slots := 0, locals := 0 } : Room).slots) := by
  refine MetFree.of_bodySF (plainFor_of_name pn_1) hisR ?_
  intro p e s m args below meth c s₁ Bd hml0 hP hK
  obtain ⟨rfl, hZ, hh⟩ := hP
  have hx := Bd.exec
  have hby := Bd.bytes
  have hml : c.maxLocals = 1 := hml0
  have hown : s.vm.findClass "com/example/novation/novation/model/SeriesKindChangesPinLaw" = some m.cls := findClass_of_methodNamed Bd.named
  have hnm := (name_of_methodNamed Bd.named Bd.method).1
  have X0 : Stand p l e ({ frames := 0, cells := 0, slots := 0, locals := 0 } : Room) s m #[(.int (2 : Int32))] below meth c s₁ [] 0 0 := Stand.of_body Bd
  have e0 : s₁.heap = h0 := by rw [← hh, Bd.state]; rfl
  have N0 := Fr.nil n0
  have pre0 : ∀ t, Steps p.tables e below (s₁.setTop (mkF m 0 #[.val (.int (2 : Int32))] [])) t → Steps p.tables e below (s₁.setTop (entryFrame m #[(.int (2 : Int32))] 1)) t := fun t kt => castTop (ef_1 m (2 : Int32)) kt
  have pre13 : ∀ t, Steps p.tables e below (s₁.setTop (mkF m 1 #[.val (.int (2 : Int32))] [(.int (2 : Int32))])) t → Steps p.tables e below (s₁.setTop (entryFrame m #[(.int (2 : Int32))] 1)) t := fun t kt => by
    refine pre0 _ ?_
    show Steps p.tables e below (s₁.setTop (mkF m 0 #[.val (.int (2 : Int32))] [])) _
    refine XS.iloadN X0.here hx rfl (hb hby d1_0) rfl ?_
    show Steps p.tables e below (s₁.setTop (mkF m 1 #[.val (.int (2 : Int32))] [(.int (2 : Int32))])) _
    exact kt
  have pre14 : ∀ t, Steps p.tables e below (s₁.setTop (mkF m 8 #[.val (.int (2 : Int32))] [])) t → Steps p.tables e below (s₁.setTop (entryFrame m #[(.int (2 : Int32))] 1)) t := fun t kt => by
    refine pre13 _ ?_
    show Steps p.tables e below (s₁.setTop (mkF m 1 #[.val (.int (2 : Int32))] [(.int (2 : Int32))])) _
    refine XS.ifYes X0.here hx rfl (pc0 := 1) (pc' := 8) rfl (hb hby d1_1) rfl ((if0 _ _).trans (feq (by decide : ¬ ((2 : Int32) = (0 : Int32)))).2) (by decide) (by decide) ?_
    show Steps p.tables e below (s₁.setTop (mkF m 8 #[.val (.int (2 : Int32))] [])) _
    exact kt
  have pre15 : ∀ t, Steps p.tables e below (s₁.setTop (mkF m 10 #[.val (.int (2 : Int32))] [(.int (1 : Int32)), (.int (2 : Int32))])) t → Steps p.tables e below (s₁.setTop (entryFrame m #[(.int (2 : Int32))] 1)) t := fun t kt => by
    refine pre14 _ ?_
    show Steps p.tables e below (s₁.setTop (mkF m 8 #[.val (.int (2 : Int32))] [])) _
    refine XS.iloadN X0.here hx rfl (hb hby d1_8) rfl ?_
    show Steps p.tables e below (s₁.setTop (mkF m 9 #[.val (.int (2 : Int32))] [(.int (2 : Int32))])) _
    refine XS.iconst X0.here hx rfl (hb hby d1_9) ?_
    show Steps p.tables e below (s₁.setTop (mkF m 10 #[.val (.int (2 : Int32))] [(.int (1 : Int32)), (.int (2 : Int32))])) _
    exact kt
  have pre16 : ∀ t, Steps p.tables e below (s₁.setTop (mkF m 17 #[.val (.int (2 : Int32))] [])) t → Steps p.tables e below (s₁.setTop (entryFrame m #[(.int (2 : Int32))] 1)) t := fun t kt => by
    refine pre15 _ ?_
    show Steps p.tables e below (s₁.setTop (mkF m 10 #[.val (.int (2 : Int32))] [(.int (1 : Int32)), (.int (2 : Int32))])) _
    refine XS.icmpYes X0.here hx rfl (pc0 := 10) (pc' := 17) rfl (hb hby d1_10) rfl (feq (by decide : ¬ ((2 : Int32) = (1 : Int32)))).2 (by decide) (by decide) ?_
    show Steps p.tables e below (s₁.setTop (mkF m 17 #[.val (.int (2 : Int32))] [])) _
    exact kt
  obtain ⟨T18, X18, e18, st18⟩ := getS2 X0 hx hZ hown (host := "") (Or.inl (hw _ (List.mem_of_getElem? (i := 34) rfl))) Via.refl e0 S_w (g := (mkF m 17 #[.val (.int (2 : Int32))] [])) rfl (hb hby d1_17)
  have pre18 : ∀ t, Steps p.tables e below (T18.setTop (mkF m 20 #[.val (.int (2 : Int32))] [(.ref w)])) t → Steps p.tables e below (s₁.setTop (entryFrame m #[(.int (2 : Int32))] 1)) t := fun t kt => pre16 _ (st18 t kt)
  obtain ⟨fs, hr, hrun, hended, hW, hsame⟩ := X18.leave (v := some (.ref w)) (fun h => by rw [Bd.returns] at h; cases h)
  refine ⟨_, _, pre18 _ ?_, hrun, hended, _, _, rfl, ?_, ⟨_, rfl⟩, hW, hsame.mono (by decide) (by decide)⟩
  · show Steps p.tables e below (T18.setTop (mkF m 20 #[.val (.int (2 : Int32))] [(.ref w)])) _
    jvm_step X18.here [X18.here.top, hx, (hb hby d1_20), X18.method', Bd.returns, Value.isRef, FieldType.isReference]
    first | (intro acts; rw [hr _ acts rfl rfl rfl]) | rw [hr _ _ rfl rfl rfl]
    exact Steps.refl _
  · show Q1_n w h0 n0 _ T18.heap _
    rw [e18]
    exact ⟨rfl, N0, rfl⟩
theorem d4_0 : decode prog_48_method_5_code 0 = .ok (.aload_n 0, 1) := by decide +kernel
theorem d4_1 : decode prog_48_method_5_code 1 = .ok (.getfield 36, 3) := by decide +kernel
theorem d4_4 : decode prog_48_method_5_code 4 = .ok (.ireturn, 1) := by decide +kernel
theorem pn_4 : plainName "com/example/novation/novation/model/SeriesKind" = true := by first | (simp [plainName, overriddenIn]; done) | decide +kernel
theorem ef_4 (m : MethodId) (x0 : Addr) : entryFrame m #[(.ref x0)] 1 = mkF m 0 #[.val (.ref x0)] [] := by first | (simp [entryFrame, mkF, argsToLocals, Value.category]; done) | rfl
def Q4_1 (o : Addr) (h0 : Heap) (n0 : Nat) (v : Option Value) (h : Heap) (L : List Loc) : Prop := v = some (.int (1 : Int32)) ∧ Fr n0 L ∧ h = h0
set_option maxRecDepth 65536 in
set_option maxHeartbeats 40000000 in
theorem rm4_1 (l : Launch) (Z : State) (aZ : Array Value) (hw : ∀ d ∈ tables_1, d.before aZ Z = true) (ws : List Jvm.Cond) (o : Addr) (h0 : Heap) (n0 : Nat) (Z0 : n0 ≤ h0.size) (F_o : Fld Z h0 o "com/example/novation/novation/model/SeriesKind" "prices" "Z" (.int (1 : Int32))) :
    MetFree l (⟨"com/example/novation/novation/model/SeriesKind", "prices", "()Z"⟩ : MethodName) (head1 (Jvm.Cond.code (⟨"com/example/novation/novation/model/SeriesKind", "prices", "()Z"⟩ : MethodName) prog_48_method_5_code 1 (some .boolean) :: ws) ({ frames := 0, cells := 0, slots := 0, locals := 0 } : Room)) (fun a U => a = #[(.ref o)] ∧ Z.Warmed39 U.vm ∧ U.heap = h0) (fun _ _ _ _ _ => True) (fun _ U oc U' => ∃ v L, oc = .returned v ∧ Q4_1 o h0 n0 v U'.heap L ∧ FrameEnd U oc U' L ({ frames := 0, cells := 0, slots := 0, locals := 0 } : Room).cells ({ frames := 0, cells := 0, slots := 0, locals := 0 } : Room).slots) := by
  refine MetFree.of_bodySF (plainFor_of_name pn_4) hisR ?_
  intro p e s m args below meth c s₁ Bd hml0 hP hK
  obtain ⟨rfl, hZ, hh⟩ := hP
  have hx := Bd.exec
  have hby := Bd.bytes
  have hml : c.maxLocals = 1 := hml0
  have hown : s.vm.findClass "com/example/novation/novation/model/SeriesKind" = some m.cls := findClass_of_methodNamed Bd.named
  have hnm := (name_of_methodNamed Bd.named Bd.method).1
  have X0 : Stand p l e ({ frames := 0, cells := 0, slots := 0, locals := 0 } : Room) s m #[(.ref o)] below meth c s₁ [] 0 0 := Stand.of_body Bd
  have e0 : s₁.heap = h0 := by rw [← hh, Bd.state]; rfl
  have N0 := Fr.nil n0
  have pre0 : ∀ t, Steps p.tables e below (s₁.setTop (mkF m 0 #[.val (.ref o)] [])) t → Steps p.tables e below (s₁.setTop (entryFrame m #[(.ref o)] 1)) t := fun t kt => castTop (ef_4 m o) kt
  have pre20 : ∀ t, Steps p.tables e below (s₁.setTop (mkF m 1 #[.val (.ref o)] [(.ref o)])) t → Steps p.tables e below (s₁.setTop (entryFrame m #[(.ref o)] 1)) t := fun t kt => by
    refine pre0 _ ?_
    show Steps p.tables e below (s₁.setTop (mkF m 0 #[.val (.ref o)] [])) _
    refine XS.aloadN X0.here hx rfl (hb hby d4_0) rfl rfl ?_
    show Steps p.tables e below (s₁.setTop (mkF m 1 #[.val (.ref o)] [(.ref o)])) _
    exact kt
  obtain ⟨T21, X21, e21, st21⟩ := getF X0 hx hZ hown (host := "") (Or.inl (hw _ (List.mem_of_getElem? (i := 13) rfl))) Via.refl e0 F_o (g := (mkF m 1 #[.val (.ref o)] [(.ref o)])) rfl rfl (hb hby d4_1)
  have pre21 : ∀ t, Steps p.tables e below (T21.setTop (mkF m 4 #[.val (.ref o)] [(.int (1 : Int32))])) t → Steps p.tables e below (s₁.setTop (entryFrame m #[(.ref o)] 1)) t := fun t kt => pre20 _ (st21 t kt)
  obtain ⟨fs, hr, hrun, hended, hW, hsame⟩ := X21.leave (v := some (.int (1 : Int32))) (fun h => by rw [Bd.returns] at h; cases h)
  refine ⟨_, _, pre21 _ ?_, hrun, hended, _, _, rfl, ?_, ⟨_, rfl⟩, hW, hsame.mono (by decide) (by decide)⟩
  · show Steps p.tables e below (T21.setTop (mkF m 4 #[.val (.ref o)] [(.int (1 : Int32))])) _
    exact retN X21 hx (t := .boolean) Bd.returns (by simp) (hb hby d4_4) hr
  · show Q4_1 o h0 n0 _ T21.heap _
    rw [e21]
    exact ⟨rfl, N0, rfl⟩
def Q4_0 (o : Addr) (h0 : Heap) (n0 : Nat) (v : Option Value) (h : Heap) (L : List Loc) : Prop := v = some (.int (0 : Int32)) ∧ Fr n0 L ∧ h = h0
set_option maxRecDepth 65536 in
set_option maxHeartbeats 40000000 in
theorem rm4_0 (l : Launch) (Z : State) (aZ : Array Value) (hw : ∀ d ∈ tables_1, d.before aZ Z = true) (ws : List Jvm.Cond) (o : Addr) (h0 : Heap) (n0 : Nat) (Z0 : n0 ≤ h0.size) (F_o : Fld Z h0 o "com/example/novation/novation/model/SeriesKind" "prices" "Z" (.int (0 : Int32))) :
    MetFree l (⟨"com/example/novation/novation/model/SeriesKind", "prices", "()Z"⟩ : MethodName) (head1 (Jvm.Cond.code (⟨"com/example/novation/novation/model/SeriesKind", "prices", "()Z"⟩ : MethodName) prog_48_method_5_code 1 (some .boolean) :: ws) ({ frames := 0, cells := 0, slots := 0, locals := 0 } : Room)) (fun a U => a = #[(.ref o)] ∧ Z.Warmed39 U.vm ∧ U.heap = h0) (fun _ _ _ _ _ => True) (fun _ U oc U' => ∃ v L, oc = .returned v ∧ Q4_0 o h0 n0 v U'.heap L ∧ FrameEnd U oc U' L ({ frames := 0, cells := 0, slots := 0, locals := 0 } : Room).cells ({ frames := 0, cells := 0, slots := 0, locals := 0 } : Room).slots) := by
  refine MetFree.of_bodySF (plainFor_of_name pn_4) hisR ?_
  intro p e s m args below meth c s₁ Bd hml0 hP hK
  obtain ⟨rfl, hZ, hh⟩ := hP
  have hx := Bd.exec
  have hby := Bd.bytes
  have hml : c.maxLocals = 1 := hml0
  have hown : s.vm.findClass "com/example/novation/novation/model/SeriesKind" = some m.cls := findClass_of_methodNamed Bd.named
  have hnm := (name_of_methodNamed Bd.named Bd.method).1
  have X0 : Stand p l e ({ frames := 0, cells := 0, slots := 0, locals := 0 } : Room) s m #[(.ref o)] below meth c s₁ [] 0 0 := Stand.of_body Bd
  have e0 : s₁.heap = h0 := by rw [← hh, Bd.state]; rfl
  have N0 := Fr.nil n0
  have pre0 : ∀ t, Steps p.tables e below (s₁.setTop (mkF m 0 #[.val (.ref o)] [])) t → Steps p.tables e below (s₁.setTop (entryFrame m #[(.ref o)] 1)) t := fun t kt => castTop (ef_4 m o) kt
  have pre23 : ∀ t, Steps p.tables e below (s₁.setTop (mkF m 1 #[.val (.ref o)] [(.ref o)])) t → Steps p.tables e below (s₁.setTop (entryFrame m #[(.ref o)] 1)) t := fun t kt => by
    refine pre0 _ ?_
    show Steps p.tables e below (s₁.setTop (mkF m 0 #[.val (.ref o)] [])) _
    refine XS.aloadN X0.here hx rfl (hb hby d4_0) rfl rfl ?_
    show Steps p.tables e below (s₁.setTop (mkF m 1 #[.val (.ref o)] [(.ref o)])) _
    exact kt
  obtain ⟨T24, X24, e24, st24⟩ := getF X0 hx hZ hown (host := "") (Or.inl (hw _ (List.mem_of_getElem? (i := 13) rfl))) Via.refl e0 F_o (g := (mkF m 1 #[.val (.ref o)] [(.ref o)])) rfl rfl (hb hby d4_1)
  have pre24 : ∀ t, Steps p.tables e below (T24.setTop (mkF m 4 #[.val (.ref o)] [(.int (0 : Int32))])) t → Steps p.tables e below (s₁.setTop (entryFrame m #[(.ref o)] 1)) t := fun t kt => pre23 _ (st24 t kt)
  obtain ⟨fs, hr, hrun, hended, hW, hsame⟩ := X24.leave (v := some (.int (0 : Int32))) (fun h => by rw [Bd.returns] at h; cases h)
  refine ⟨_, _, pre24 _ ?_, hrun, hended, _, _, rfl, ?_, ⟨_, rfl⟩, hW, hsame.mono (by decide) (by decide)⟩
  · show Steps p.tables e below (T24.setTop (mkF m 4 #[.val (.ref o)] [(.int (0 : Int32))])) _
    exact retN X24 hx (t := .boolean) Bd.returns (by simp) (hb hby d4_4) hr
  · show Q4_0 o h0 n0 _ T24.heap _
    rw [e24]
    exact ⟨rfl, N0, rfl⟩
theorem d5_0 : decode jdk_43_method_13_code 0 = .ok (.aload_n 0, 1) := by decide +kernel
theorem d5_1 : decode jdk_43_method_13_code 1 = .ok (.arraylength, 1) := by decide +kernel
theorem d5_2 : decode jdk_43_method_13_code 2 = .ok (.aload_n 1, 1) := by decide +kernel
theorem d5_3 : decode jdk_43_method_13_code 3 = .ok (.arraylength, 1) := by decide +kernel
theorem d5_4 : decode jdk_43_method_13_code 4 = .ok (.if_icmp .ne 30, 3) := by decide +kernel
theorem d5_7 : decode jdk_43_method_13_code 7 = .ok (.iconst 0, 1) := by decide +kernel
theorem d5_8 : decode jdk_43_method_13_code 8 = .ok (.istore_n 2, 1) := by decide +kernel
theorem d5_9 : decode jdk_43_method_13_code 9 = .ok (.iload_n 2, 1) := by decide +kernel
theorem d5_10 : decode jdk_43_method_13_code 10 = .ok (.aload_n 0, 1) := by decide +kernel
theorem d5_11 : decode jdk_43_method_13_code 11 = .ok (.arraylength, 1) := by decide +kernel
theorem d5_12 : decode jdk_43_method_13_code 12 = .ok (.if_icmp .ge 20, 3) := by decide +kernel
theorem d5_15 : decode jdk_43_method_13_code 15 = .ok (.aload_n 0, 1) := by decide +kernel
theorem d5_16 : decode jdk_43_method_13_code 16 = .ok (.iload_n 2, 1) := by decide +kernel
theorem d5_17 : decode jdk_43_method_13_code 17 = .ok (.baload, 1) := by decide +kernel
theorem d5_18 : decode jdk_43_method_13_code 18 = .ok (.aload_n 1, 1) := by decide +kernel
theorem d5_19 : decode jdk_43_method_13_code 19 = .ok (.iload_n 2, 1) := by decide +kernel
theorem d5_20 : decode jdk_43_method_13_code 20 = .ok (.baload, 1) := by decide +kernel
theorem d5_21 : decode jdk_43_method_13_code 21 = .ok (.if_icmp .eq 5, 3) := by decide +kernel
theorem d5_24 : decode jdk_43_method_13_code 24 = .ok (.iconst 0, 1) := by decide +kernel
theorem d5_25 : decode jdk_43_method_13_code 25 = .ok (.ireturn, 1) := by decide +kernel
theorem d5_26 : decode jdk_43_method_13_code 26 = .ok (.iinc 2 1, 3) := by decide +kernel
theorem d5_29 : decode jdk_43_method_13_code 29 = .ok (.goto (-20), 3) := by decide +kernel
theorem d5_32 : decode jdk_43_method_13_code 32 = .ok (.iconst 1, 1) := by decide +kernel
theorem d5_33 : decode jdk_43_method_13_code 33 = .ok (.ireturn, 1) := by decide +kernel
theorem d5_34 : decode jdk_43_method_13_code 34 = .ok (.iconst 0, 1) := by decide +kernel
theorem d5_35 : decode jdk_43_method_13_code 35 = .ok (.ireturn, 1) := by decide +kernel
theorem pn_5 : plainName "java/lang/StringLatin1" = true := by first | (simp [plainName, overriddenIn]; done) | decide +kernel
theorem ef_5 (m : MethodId) (x0 : Addr) (x1 : Addr) : entryFrame m #[(.ref x0), (.ref x1)] 3 = mkF m 0 #[.val (.ref x0), .val (.ref x1), .unset] [] := by first | (simp [entryFrame, mkF, argsToLocals, Value.category]; done) | rfl
def Q5_a (va vb : Addr) (ka kb : ClassId) (h0 : Heap) (n0 : Nat) (v : Option Value) (h : Heap) (L : List Loc) : Prop := v = some (.int (1 : Int32)) ∧ Fr n0 L ∧ h = h0
set_option maxRecDepth 65536 in
set_option maxHeartbeats 40000000 in
theorem rm5_a (l : Launch) (Z : State) (aZ : Array Value) (hw : ∀ d ∈ tables_1, d.before aZ Z = true) (ws : List Jvm.Cond) (va vb : Addr) (ka kb : ClassId) (h0 : Heap) (n0 : Nat) (Z0 : n0 ≤ h0.size) (A_a : Arv Z h0 va ka .byte (13 : Int32) [(.int (100 : Int32)), (.int (97 : Int32)), (.int (105 : Int32)), (.int (108 : Int32)), (.int (121 : Int32)), (.int (32 : Int32)), (.int (114 : Int32)), (.int (101 : Int32)), (.int (116 : Int32)), (.int (117 : Int32)), (.int (114 : Int32)), (.int (110 : Int32)), (.int (115 : Int32))] (.int (0 : Int32))) (A_b : Arv Z h0 vb kb .byte (13 : Int32) [(.int (100 : Int32)), (.int (97 : Int32)), (.int (105 : Int32)), (.int (108 : Int32)), (.int (121 : Int32)), (.int (32 : Int32)), (.int (114 : Int32)), (.int (101 : Int32)), (.int (116 : Int32)), (.int (117 : Int32)), (.int (114 : Int32)), (.int (110 : Int32)), (.int (115 : Int32))] (.int (0 : Int32))) :
    MetFree l (⟨"java/lang/StringLatin1", "equals", "([B[B)Z"⟩ : MethodName) (head1 (Jvm.Cond.code (⟨"java/lang/StringLatin1", "equals", "([B[B)Z"⟩ : MethodName) jdk_43_method_13_code 3 (some .boolean) :: ws) ({ frames := 0, cells := 0, slots := 0, locals := 0 } : Room)) (fun a U => a = #[(.ref va), (.ref vb)] ∧ Z.Warmed39 U.vm ∧ U.heap = h0) (fun _ _ _ _ _ => True) (fun _ U oc U' => ∃ v L, oc = .returned v ∧ Q5_a va vb ka kb h0 n0 v U'.heap L ∧ FrameEnd U oc U' L ({ frames := 0, cells := 0, slots := 0, locals := 0 } : Room).cells ({ frames := 0, cells := 0, slots := 0, locals := 0 } : Room).slots) := by
  refine MetFree.of_bodySF (plainFor_of_name pn_5) hisR ?_
  intro p e s m args below meth c s₁ Bd hml0 hP hK
  obtain ⟨rfl, hZ, hh⟩ := hP
  have hx := Bd.exec
  have hby := Bd.bytes
  have hml : c.maxLocals = 3 := hml0
  have hown : s.vm.findClass "java/lang/StringLatin1" = some m.cls := findClass_of_methodNamed Bd.named
  have hnm := (name_of_methodNamed Bd.named Bd.method).1
  have X0 : Stand p l e ({ frames := 0, cells := 0, slots := 0, locals := 0 } : Room) s m #[(.ref va), (.ref vb)] below meth c s₁ [] 0 0 := Stand.of_body Bd
  have e0 : s₁.heap = h0 := by rw [← hh, Bd.state]; rfl
  have N0 := Fr.nil n0
  have pre0 : ∀ t, Steps p.tables e below (s₁.setTop (mkF m 0 #[.val (.ref va), .val (.ref vb), .unset] [])) t → Steps p.tables e below (s₁.setTop (entryFrame m #[(.ref va), (.ref vb)] 3)) t := fun t kt => castTop (ef_5 m va vb) kt
  have pre26 : ∀ t, Steps p.tables e below (s₁.setTop (mkF m 1 #[.val (.ref va), .val (.ref vb), .unset] [(.ref va)])) t → Steps p.tables e below (s₁.setTop (entryFrame m #[(.ref va), (.ref vb)] 3)) t := fun t kt => by
    refine pre0 _ ?_
    show Steps p.tables e below (s₁.setTop (mkF m 0 #[.val (.ref va), .val (.ref vb), .unset] [])) _
    refine XS.aloadN X0.here hx rfl (hb hby d5_0) rfl rfl ?_
    show Steps p.tables e below (s₁.setTop (mkF m 1 #[.val (.ref va), .val (.ref vb), .unset] [(.ref va)])) _
    exact kt
  have Vo_va_27 := A_a
  obtain ⟨cl_va_27, Ar_va_27, q_va_27, S_va_27, M_va_27, H_va_27, G_va_27⟩ := Vo_va_27
  have pre27 : ∀ t, Steps p.tables e below (s₁.setTop (mkF m 2 #[.val (.ref va), .val (.ref vb), .unset] [(.int (13 : Int32))])) t → Steps p.tables e below (s₁.setTop (entryFrame m #[(.ref va), (.ref vb)] 3)) t := fun t kt => by
    refine pre26 _ ?_
    refine X0.arraylength hx (by rw [e0]; exact Ar_va_27.1) (State.isArrayOf_alike hZ.alike Ar_va_27.2.1) (g := (mkF m 1 #[.val (.ref va), .val (.ref vb), .unset] [(.ref va)])) rfl rfl (hb hby d5_1) _ ?_
    rw [len_of S_va_27 M_va_27]
    exact kt
  clear pre26  G_va_27 H_va_27 M_va_27 S_va_27 q_va_27 Ar_va_27
  have pre28 : ∀ t, Steps p.tables e below (s₁.setTop (mkF m 3 #[.val (.ref va), .val (.ref vb), .unset] [(.ref vb), (.int (13 : Int32))])) t → Steps p.tables e below (s₁.setTop (entryFrame m #[(.ref va), (.ref vb)] 3)) t := fun t kt => by
    refine pre27 _ ?_
    show Steps p.tables e below (s₁.setTop (mkF m 2 #[.val (.ref va), .val (.ref vb), .unset] [(.int (13 : Int32))])) _
    refine XS.aloadN X0.here hx rfl (hb hby d5_2) rfl rfl ?_
    show Steps p.tables e below (s₁.setTop (mkF m 3 #[.val (.ref va), .val (.ref vb), .unset] [(.ref vb), (.int (13 : Int32))])) _
    exact kt
  have Vo_vb_29 := A_b
  obtain ⟨cl_vb_29, Ar_vb_29, q_vb_29, S_vb_29, M_vb_29, H_vb_29, G_vb_29⟩ := Vo_vb_29
  have pre29 : ∀ t, Steps p.tables e below (s₁.setTop (mkF m 4 #[.val (.ref va), .val (.ref vb), .unset] [(.int (13 : Int32)), (.int (13 : Int32))])) t → Steps p.tables e below (s₁.setTop (entryFrame m #[(.ref va), (.ref vb)] 3)) t := fun t kt => by
    refine pre28 _ ?_
    refine X0.arraylength hx (by rw [e0]; exact Ar_vb_29.1) (State.isArrayOf_alike hZ.alike Ar_vb_29.2.1) (g := (mkF m 3 #[.val (.ref va), .val (.ref vb), .unset] [(.ref vb), (.int (13 : Int32))])) rfl rfl (hb hby d5_3) _ ?_
    rw [len_of S_vb_29 M_vb_29]
    exact kt
  clear pre28  G_vb_29 H_vb_29 M_vb_29 S_vb_29 q_vb_29 Ar_vb_29
  have pre31 : ∀ t, Steps p.tables e below (s₁.setTop (mkF m 7 #[.val (.ref va), .val (.ref vb), .unset] [])) t → Steps p.tables e below (s₁.setTop (entryFrame m #[(.ref va), (.ref vb)] 3)) t := fun t kt => by
    refine pre29 _ ?_
    show Steps p.tables e below (s₁.setTop (mkF m 4 #[.val (.ref va), .val (.ref vb), .unset] [(.int (13 : Int32)), (.int (13 : Int32))])) _
    refine XS.icmpNo X0.here hx rfl (hb hby d5_4) rfl (teq (by decide : (13 : Int32) = (13 : Int32))).2 ?_
    show Steps p.tables e below (s₁.setTop (mkF m 7 #[.val (.ref va), .val (.ref vb), .unset] [])) _
    exact kt
  have pre32 : ∀ t, Steps p.tables e below (s₁.setTop (mkF m 11 #[.val (.ref va), .val (.ref vb), .val (.int (0 : Int32))] [(.ref va), (.int (0 : Int32))])) t → Steps p.tables e below (s₁.setTop (entryFrame m #[(.ref va), (.ref vb)] 3)) t := fun t kt => by
    refine pre31 _ ?_
    show Steps p.tables e below (s₁.setTop (mkF m 7 #[.val (.ref va), .val (.ref vb), .unset] [])) _
    refine XS.iconst X0.here hx rfl (hb hby d5_7) ?_
    show Steps p.tables e below (s₁.setTop (mkF m 8 #[.val (.ref va), .val (.ref vb), .unset] [(.int (0 : Int32))])) _
    refine XS.istoreN X0.here hx rfl (hb hby d5_8) rfl (l' := #[.val (.ref va), .val (.ref vb), .val (.int (0 : Int32))]) rfl ?_
    show Steps p.tables e below (s₁.setTop (mkF m 9 #[.val (.ref va), .val (.ref vb), .val (.int (0 : Int32))] [])) _
    refine XS.iloadN X0.here hx rfl (hb hby d5_9) rfl ?_
    show Steps p.tables e below (s₁.setTop (mkF m 10 #[.val (.ref va), .val (.ref vb), .val (.int (0 : Int32))] [(.int (0 : Int32))])) _
    refine XS.aloadN X0.here hx rfl (hb hby d5_10) rfl rfl ?_
    show Steps p.tables e below (s₁.setTop (mkF m 11 #[.val (.ref va), .val (.ref vb), .val (.int (0 : Int32))] [(.ref va), (.int (0 : Int32))])) _
    exact kt
  have Vo_va_33 := A_a
  obtain ⟨cl_va_33, Ar_va_33, q_va_33, S_va_33, M_va_33, H_va_33, G_va_33⟩ := Vo_va_33
  have pre33 : ∀ t, Steps p.tables e below (s₁.setTop (mkF m 12 #[.val (.ref va), .val (.ref vb), .val (.int (0 : Int32))] [(.int (13 : Int32)), (.int (0 : Int32))])) t → Steps p.tables e below (s₁.setTop (entryFrame m #[(.ref va), (.ref vb)] 3)) t := fun t kt => by
    refine pre32 _ ?_
    refine X0.arraylength hx (by rw [e0]; exact Ar_va_33.1) (State.isArrayOf_alike hZ.alike Ar_va_33.2.1) (g := (mkF m 11 #[.val (.ref va), .val (.ref vb), .val (.int (0 : Int32))] [(.ref va), (.int (0 : Int32))])) rfl rfl (hb hby d5_11) _ ?_
    rw [len_of S_va_33 M_va_33]
    exact kt
  clear pre32  G_va_33 H_va_33 M_va_33 S_va_33 q_va_33 Ar_va_33
  have pre35 : ∀ t, Steps p.tables e below (s₁.setTop (mkF m 15 #[.val (.ref va), .val (.ref vb), .val (.int (0 : Int32))] [])) t → Steps p.tables e below (s₁.setTop (entryFrame m #[(.ref va), (.ref vb)] 3)) t := fun t kt => by
    refine pre33 _ ?_
    show Steps p.tables e below (s₁.setTop (mkF m 12 #[.val (.ref va), .val (.ref vb), .val (.int (0 : Int32))] [(.int (13 : Int32)), (.int (0 : Int32))])) _
    refine XS.icmpNo X0.here hx rfl (hb hby d5_12) rfl (tlt (by decide : (0 : Int32) < (13 : Int32))).2.1 ?_
    show Steps p.tables e below (s₁.setTop (mkF m 15 #[.val (.ref va), .val (.ref vb), .val (.int (0 : Int32))] [])) _
    exact kt
  have pre36 : ∀ t, Steps p.tables e below (s₁.setTop (mkF m 17 #[.val (.ref va), .val (.ref vb), .val (.int (0 : Int32))] [(.int (0 : Int32)), (.ref va)])) t → Steps p.tables e below (s₁.setTop (entryFrame m #[(.ref va), (.ref vb)] 3)) t := fun t kt => by
    refine pre35 _ ?_
    show Steps p.tables e below (s₁.setTop (mkF m 15 #[.val (.ref va), .val (.ref vb), .val (.int (0 : Int32))] [])) _
    refine XS.aloadN X0.here hx rfl (hb hby d5_15) rfl rfl ?_
    show Steps p.tables e below (s₁.setTop (mkF m 16 #[.val (.ref va), .val (.ref vb), .val (.int (0 : Int32))] [(.ref va)])) _
    refine XS.iloadN X0.here hx rfl (hb hby d5_16) rfl ?_
    show Steps p.tables e below (s₁.setTop (mkF m 17 #[.val (.ref va), .val (.ref vb), .val (.int (0 : Int32))] [(.int (0 : Int32)), (.ref va)])) _
    exact kt
  have Vo_va_37 := A_a
  obtain ⟨cl_va_37, Ar_va_37, q_va_37, S_va_37, M_va_37, H_va_37, G_va_37⟩ := Vo_va_37
  have hin37 : ¬ ((0 : Int32) < 0 ∨ cl_va_37.slots.size ≤ ((0 : Int32)).toNatClampNeg) := inb_of S_va_37 ⟨by decide, by decide⟩
  have hat37 : cl_va_37.slots[((0 : Int32)).toNatClampNeg]? = some (.int (100 : Int32)) := H_va_37.at hin37 rfl
  have pre38 : ∀ t, Steps p.tables e below (s₁.setTop (mkF m 18 #[.val (.ref va), .val (.ref vb), .val (.int (0 : Int32))] [(.int (100 : Int32))])) t → Steps p.tables e below (s₁.setTop (entryFrame m #[(.ref va), (.ref vb)] 3)) t := fun t kt => pre36 _ (X0.baloadBytes hx (j := (0 : Int32)) (v := (.int (100 : Int32))) (by rw [e0]; exact Ar_va_37.1) (State.isArrayOf_alike hZ.alike Ar_va_37.2.1) Ar_va_37.2.2 hin37 hat37 (g := (mkF m 17 #[.val (.ref va), .val (.ref vb), .val (.int (0 : Int32))] [(.int (0 : Int32)), (.ref va)])) rfl rfl (hb hby d5_17) t kt)
  clear pre36 hat37 hin37 G_va_37 H_va_37 M_va_37 S_va_37 q_va_37 Ar_va_37
  have pre39 : ∀ t, Steps p.tables e below (s₁.setTop (mkF m 20 #[.val (.ref va), .val (.ref vb), .val (.int (0 : Int32))] [(.int (0 : Int32)), (.ref vb), (.int (100 : Int32))])) t → Steps p.tables e below (s₁.setTop (entryFrame m #[(.ref va), (.ref vb)] 3)) t := fun t kt => by
    refine pre38 _ ?_
    show Steps p.tables e below (s₁.setTop (mkF m 18 #[.val (.ref va), .val (.ref vb), .val (.int (0 : Int32))] [(.int (100 : Int32))])) _
    refine XS.aloadN X0.here hx rfl (hb hby d5_18) rfl rfl ?_
    show Steps p.tables e below (s₁.setTop (mkF m 19 #[.val (.ref va), .val (.ref vb), .val (.int (0 : Int32))] [(.ref vb), (.int (100 : Int32))])) _
    refine XS.iloadN X0.here hx rfl (hb hby d5_19) rfl ?_
    show Steps p.tables e below (s₁.setTop (mkF m 20 #[.val (.ref va), .val (.ref vb), .val (.int (0 : Int32))] [(.int (0 : Int32)), (.ref vb), (.int (100 : Int32))])) _
    exact kt
  have Vo_vb_40 := A_b
  obtain ⟨cl_vb_40, Ar_vb_40, q_vb_40, S_vb_40, M_vb_40, H_vb_40, G_vb_40⟩ := Vo_vb_40
  have hin40 : ¬ ((0 : Int32) < 0 ∨ cl_vb_40.slots.size ≤ ((0 : Int32)).toNatClampNeg) := inb_of S_vb_40 ⟨by decide, by decide⟩
  have hat40 : cl_vb_40.slots[((0 : Int32)).toNatClampNeg]? = some (.int (100 : Int32)) := H_vb_40.at hin40 rfl
  have pre41 : ∀ t, Steps p.tables e below (s₁.setTop (mkF m 21 #[.val (.ref va), .val (.ref vb), .val (.int (0 : Int32))] [(.int (100 : Int32)), (.int (100 : Int32))])) t → Steps p.tables e below (s₁.setTop (entryFrame m #[(.ref va), (.ref vb)] 3)) t := fun t kt => pre39 _ (X0.baloadBytes hx (j := (0 : Int32)) (v := (.int (100 : Int32))) (by rw [e0]; exact Ar_vb_40.1) (State.isArrayOf_alike hZ.alike Ar_vb_40.2.1) Ar_vb_40.2.2 hin40 hat40 (g := (mkF m 20 #[.val (.ref va), .val (.ref vb), .val (.int (0 : Int32))] [(.int (0 : Int32)), (.ref vb), (.int (100 : Int32))])) rfl rfl (hb hby d5_20) t kt)
  clear pre39 hat40 hin40 G_vb_40 H_vb_40 M_vb_40 S_vb_40 q_vb_40 Ar_vb_40
  have pre43 : ∀ t, Steps p.tables e below (s₁.setTop (mkF m 26 #[.val (.ref va), .val (.ref vb), .val (.int (0 : Int32))] [])) t → Steps p.tables e below (s₁.setTop (entryFrame m #[(.ref va), (.ref vb)] 3)) t := fun t kt => by
    refine pre41 _ ?_
    show Steps p.tables e below (s₁.setTop (mkF m 21 #[.val (.ref va), .val (.ref vb), .val (.int (0 : Int32))] [(.int (100 : Int32)), (.int (100 : Int32))])) _
    refine XS.icmpYes X0.here hx rfl (pc0 := 21) (pc' := 26) rfl (hb hby d5_21) rfl (teq (by decide : (100 : Int32) = (100 : Int32))).1 (by decide) (by decide) ?_
    show Steps p.tables e below (s₁.setTop (mkF m 26 #[.val (.ref va), .val (.ref vb), .val (.int (0 : Int32))] [])) _
    exact kt
  have pre44 : ∀ t, Steps p.tables e below (s₁.setTop (mkF m 11 #[.val (.ref va), .val (.ref vb), .val (.int (1 : Int32))] [(.ref va), (.int (1 : Int32))])) t → Steps p.tables e below (s₁.setTop (entryFrame m #[(.ref va), (.ref vb)] 3)) t := fun t kt => by
    refine pre43 _ ?_
    show Steps p.tables e below (s₁.setTop (mkF m 26 #[.val (.ref va), .val (.ref vb), .val (.int (0 : Int32))] [])) _
    refine XS.iinc X0.here hx rfl (hb hby d5_26) rfl (l' := #[.val (.ref va), .val (.ref vb), .val (.int ((0 : Int32) + (1 : Int32)))]) rfl ?_
    show Steps p.tables e below (s₁.setTop (mkF m 29 #[.val (.ref va), .val (.ref vb), .val (.int (1 : Int32))] [])) _
    refine XS.goto X0.here hx rfl (pc0 := 29) (pc' := 9) rfl (hb hby d5_29) (by decide) (by decide) ?_
    show Steps p.tables e below (s₁.setTop (mkF m 9 #[.val (.ref va), .val (.ref vb), .val (.int (1 : Int32))] [])) _
    refine XS.iloadN X0.here hx rfl (hb hby d5_9) rfl ?_
    show Steps p.tables e below (s₁.setTop (mkF m 10 #[.val (.ref va), .val (.ref vb), .val (.int (1 : Int32))] [(.int (1 : Int32))])) _
    refine XS.aloadN X0.here hx rfl (hb hby d5_10) rfl rfl ?_
    show Steps p.tables e below (s₁.setTop (mkF m 11 #[.val (.ref va), .val (.ref vb), .val (.int (1 : Int32))] [(.ref va), (.int (1 : Int32))])) _
    exact kt
  have Vo_va_45 := A_a
  obtain ⟨cl_va_45, Ar_va_45, q_va_45, S_va_45, M_va_45, H_va_45, G_va_45⟩ := Vo_va_45
  have pre45 : ∀ t, Steps p.tables e below (s₁.setTop (mkF m 12 #[.val (.ref va), .val (.ref vb), .val (.int (1 : Int32))] [(.int (13 : Int32)), (.int (1 : Int32))])) t → Steps p.tables e below (s₁.setTop (entryFrame m #[(.ref va), (.ref vb)] 3)) t := fun t kt => by
    refine pre44 _ ?_
    refine X0.arraylength hx (by rw [e0]; exact Ar_va_45.1) (State.isArrayOf_alike hZ.alike Ar_va_45.2.1) (g := (mkF m 11 #[.val (.ref va), .val (.ref vb), .val (.int (1 : Int32))] [(.ref va), (.int (1 : Int32))])) rfl rfl (hb hby d5_11) _ ?_
    rw [len_of S_va_45 M_va_45]
    exact kt
  clear pre44  G_va_45 H_va_45 M_va_45 S_va_45 q_va_45 Ar_va_45
  have pre47 : ∀ t, Steps p.tables e below (s₁.setTop (mkF m 15 #[.val (.ref va), .val (.ref vb), .val (.int (1 : Int32))] [])) t → Steps p.tables e below (s₁.setTop (entryFrame m #[(.ref va), (.ref vb)] 3)) t := fun t kt => by
    refine pre45 _ ?_
    show Steps p.tables e below (s₁.setTop (mkF m 12 #[.val (.ref va), .val (.ref vb), .val (.int (1 : Int32))] [(.int (13 : Int32)), (.int (1 : Int32))])) _
    refine XS.icmpNo X0.here hx rfl (hb hby d5_12) rfl (tlt (by decide : (1 : Int32) < (13 : Int32))).2.1 ?_
    show Steps p.tables e below (s₁.setTop (mkF m 15 #[.val (.ref va), .val (.ref vb), .val (.int (1 : Int32))] [])) _
    exact kt
  have pre48 : ∀ t, Steps p.tables e below (s₁.setTop (mkF m 17 #[.val (.ref va), .val (.ref vb), .val (.int (1 : Int32))] [(.int (1 : Int32)), (.ref va)])) t → Steps p.tables e below (s₁.setTop (entryFrame m #[(.ref va), (.ref vb)] 3)) t := fun t kt => by
    refine pre47 _ ?_
    show Steps p.tables e below (s₁.setTop (mkF m 15 #[.val (.ref va), .val (.ref vb), .val (.int (1 : Int32))] [])) _
    refine XS.aloadN X0.here hx rfl (hb hby d5_15) rfl rfl ?_
    show Steps p.tables e below (s₁.setTop (mkF m 16 #[.val (.ref va), .val (.ref vb), .val (.int (1 : Int32))] [(.ref va)])) _
    refine XS.iloadN X0.here hx rfl (hb hby d5_16) rfl ?_
    show Steps p.tables e below (s₁.setTop (mkF m 17 #[.val (.ref va), .val (.ref vb), .val (.int (1 : Int32))] [(.int (1 : Int32)), (.ref va)])) _
    exact kt
  have Vo_va_49 := A_a
  obtain ⟨cl_va_49, Ar_va_49, q_va_49, S_va_49, M_va_49, H_va_49, G_va_49⟩ := Vo_va_49
  have hin49 : ¬ ((1 : Int32) < 0 ∨ cl_va_49.slots.size ≤ ((1 : Int32)).toNatClampNeg) := inb_of S_va_49 ⟨by decide, by decide⟩
  have hat49 : cl_va_49.slots[((1 : Int32)).toNatClampNeg]? = some (.int (97 : Int32)) := H_va_49.at hin49 rfl
  have pre50 : ∀ t, Steps p.tables e below (s₁.setTop (mkF m 18 #[.val (.ref va), .val (.ref vb), .val (.int (1 : Int32))] [(.int (97 : Int32))])) t → Steps p.tables e below (s₁.setTop (entryFrame m #[(.ref va), (.ref vb)] 3)) t := fun t kt => pre48 _ (X0.baloadBytes hx (j := (1 : Int32)) (v := (.int (97 : Int32))) (by rw [e0]; exact Ar_va_49.1) (State.isArrayOf_alike hZ.alike Ar_va_49.2.1) Ar_va_49.2.2 hin49 hat49 (g := (mkF m 17 #[.val (.ref va), .val (.ref vb), .val (.int (1 : Int32))] [(.int (1 : Int32)), (.ref va)])) rfl rfl (hb hby d5_17) t kt)
  clear pre48 hat49 hin49 G_va_49 H_va_49 M_va_49 S_va_49 q_va_49 Ar_va_49
  have pre51 : ∀ t, Steps p.tables e below (s₁.setTop (mkF m 20 #[.val (.ref va), .val (.ref vb), .val (.int (1 : Int32))] [(.int (1 : Int32)), (.ref vb), (.int (97 : Int32))])) t → Steps p.tables e below (s₁.setTop (entryFrame m #[(.ref va), (.ref vb)] 3)) t := fun t kt => by
    refine pre50 _ ?_
    show Steps p.tables e below (s₁.setTop (mkF m 18 #[.val (.ref va), .val (.ref vb), .val (.int (1 : Int32))] [(.int (97 : Int32))])) _
    refine XS.aloadN X0.here hx rfl (hb hby d5_18) rfl rfl ?_
    show Steps p.tables e below (s₁.setTop (mkF m 19 #[.val (.ref va), .val (.ref vb), .val (.int (1 : Int32))] [(.ref vb), (.int (97 : Int32))])) _
    refine XS.iloadN X0.here hx rfl (hb hby d5_19) rfl ?_
    show Steps p.tables e below (s₁.setTop (mkF m 20 #[.val (.ref va), .val (.ref vb), .val (.int (1 : Int32))] [(.int (1 : Int32)), (.ref vb), (.int (97 : Int32))])) _
    exact kt
  have Vo_vb_52 := A_b
  obtain ⟨cl_vb_52, Ar_vb_52, q_vb_52, S_vb_52, M_vb_52, H_vb_52, G_vb_52⟩ := Vo_vb_52
  have hin52 : ¬ ((1 : Int32) < 0 ∨ cl_vb_52.slots.size ≤ ((1 : Int32)).toNatClampNeg) := inb_of S_vb_52 ⟨by decide, by decide⟩
  have hat52 : cl_vb_52.slots[((1 : Int32)).toNatClampNeg]? = some (.int (97 : Int32)) := H_vb_52.at hin52 rfl
  have pre53 : ∀ t, Steps p.tables e below (s₁.setTop (mkF m 21 #[.val (.ref va), .val (.ref vb), .val (.int (1 : Int32))] [(.int (97 : Int32)), (.int (97 : Int32))])) t → Steps p.tables e below (s₁.setTop (entryFrame m #[(.ref va), (.ref vb)] 3)) t := fun t kt => pre51 _ (X0.baloadBytes hx (j := (1 : Int32)) (v := (.int (97 : Int32))) (by rw [e0]; exact Ar_vb_52.1) (State.isArrayOf_alike hZ.alike Ar_vb_52.2.1) Ar_vb_52.2.2 hin52 hat52 (g := (mkF m 20 #[.val (.ref va), .val (.ref vb), .val (.int (1 : Int32))] [(.int (1 : Int32)), (.ref vb), (.int (97 : Int32))])) rfl rfl (hb hby d5_20) t kt)
  clear pre51 hat52 hin52 G_vb_52 H_vb_52 M_vb_52 S_vb_52 q_vb_52 Ar_vb_52
  have pre55 : ∀ t, Steps p.tables e below (s₁.setTop (mkF m 26 #[.val (.ref va), .val (.ref vb), .val (.int (1 : Int32))] [])) t → Steps p.tables e below (s₁.setTop (entryFrame m #[(.ref va), (.ref vb)] 3)) t := fun t kt => by
    refine pre53 _ ?_
    show Steps p.tables e below (s₁.setTop (mkF m 21 #[.val (.ref va), .val (.ref vb), .val (.int (1 : Int32))] [(.int (97 : Int32)), (.int (97 : Int32))])) _
    refine XS.icmpYes X0.here hx rfl (pc0 := 21) (pc' := 26) rfl (hb hby d5_21) rfl (teq (by decide : (97 : Int32) = (97 : Int32))).1 (by decide) (by decide) ?_
    show Steps p.tables e below (s₁.setTop (mkF m 26 #[.val (.ref va), .val (.ref vb), .val (.int (1 : Int32))] [])) _
    exact kt
  have pre56 : ∀ t, Steps p.tables e below (s₁.setTop (mkF m 11 #[.val (.ref va), .val (.ref vb), .val (.int (2 : Int32))] [(.ref va), (.int (2 : Int32))])) t → Steps p.tables e below (s₁.setTop (entryFrame m #[(.ref va), (.ref vb)] 3)) t := fun t kt => by
    refine pre55 _ ?_
    show Steps p.tables e below (s₁.setTop (mkF m 26 #[.val (.ref va), .val (.ref vb), .val (.int (1 : Int32))] [])) _
    refine XS.iinc X0.here hx rfl (hb hby d5_26) rfl (l' := #[.val (.ref va), .val (.ref vb), .val (.int ((1 : Int32) + (1 : Int32)))]) rfl ?_
    show Steps p.tables e below (s₁.setTop (mkF m 29 #[.val (.ref va), .val (.ref vb), .val (.int (2 : Int32))] [])) _
    refine XS.goto X0.here hx rfl (pc0 := 29) (pc' := 9) rfl (hb hby d5_29) (by decide) (by decide) ?_
    show Steps p.tables e below (s₁.setTop (mkF m 9 #[.val (.ref va), .val (.ref vb), .val (.int (2 : Int32))] [])) _
    refine XS.iloadN X0.here hx rfl (hb hby d5_9) rfl ?_
    show Steps p.tables e below (s₁.setTop (mkF m 10 #[.val (.ref va), .val (.ref vb), .val (.int (2 : Int32))] [(.int (2 : Int32))])) _
    refine XS.aloadN X0.here hx rfl (hb hby d5_10) rfl rfl ?_
    show Steps p.tables e below (s₁.setTop (mkF m 11 #[.val (.ref va), .val (.ref vb), .val (.int (2 : Int32))] [(.ref va), (.int (2 : Int32))])) _
    exact kt
  have Vo_va_57 := A_a
  obtain ⟨cl_va_57, Ar_va_57, q_va_57, S_va_57, M_va_57, H_va_57, G_va_57⟩ := Vo_va_57
  have pre57 : ∀ t, Steps p.tables e below (s₁.setTop (mkF m 12 #[.val (.ref va), .val (.ref vb), .val (.int (2 : Int32))] [(.int (13 : Int32)), (.int (2 : Int32))])) t → Steps p.tables e below (s₁.setTop (entryFrame m #[(.ref va), (.ref vb)] 3)) t := fun t kt => by
    refine pre56 _ ?_
    refine X0.arraylength hx (by rw [e0]; exact Ar_va_57.1) (State.isArrayOf_alike hZ.alike Ar_va_57.2.1) (g := (mkF m 11 #[.val (.ref va), .val (.ref vb), .val (.int (2 : Int32))] [(.ref va), (.int (2 : Int32))])) rfl rfl (hb hby d5_11) _ ?_
    rw [len_of S_va_57 M_va_57]
    exact kt
  clear pre56  G_va_57 H_va_57 M_va_57 S_va_57 q_va_57 Ar_va_57
  have pre59 : ∀ t, Steps p.tables e below (s₁.setTop (mkF m 15 #[.val (.ref va), .val (.ref vb), .val (.int (2 : Int32))] [])) t → Steps p.tables e below (s₁.setTop (entryFrame m #[(.ref va), (.ref vb)] 3)) t := fun t kt => by
    refine pre57 _ ?_
    show Steps p.tables e below (s₁.setTop (mkF m 12 #[.val (.ref va), .val (.ref vb), .val (.int (2 : Int32))] [(.int (13 : Int32)), (.int (2 : Int32))])) _
    refine XS.icmpNo X0.here hx rfl (hb hby d5_12) rfl (tlt (by decide : (2 : Int32) < (13 : Int32))).2.1 ?_
    show Steps p.tables e below (s₁.setTop (mkF m 15 #[.val (.ref va), .val (.ref vb), .val (.int (2 : Int32))] [])) _
    exact kt
  have pre60 : ∀ t, Steps p.tables e below (s₁.setTop (mkF m 17 #[.val (.ref va), .val (.ref vb), .val (.int (2 : Int32))] [(.int (2 : Int32)), (.ref va)])) t → Steps p.tables e below (s₁.setTop (entryFrame m #[(.ref va), (.ref vb)] 3)) t := fun t kt => by
    refine pre59 _ ?_
    show Steps p.tables e below (s₁.setTop (mkF m 15 #[.val (.ref va), .val (.ref vb), .val (.int (2 : Int32))] [])) _
    refine XS.aloadN X0.here hx rfl (hb hby d5_15) rfl rfl ?_
    show Steps p.tables e below (s₁.setTop (mkF m 16 #[.val (.ref va), .val (.ref vb), .val (.int (2 : Int32))] [(.ref va)])) _
    refine XS.iloadN X0.here hx rfl (hb hby d5_16) rfl ?_
    show Steps p.tables e below (s₁.setTop (mkF m 17 #[.val (.ref va), .val (.ref vb), .val (.int (2 : Int32))] [(.int (2 : Int32)), (.ref va)])) _
    exact kt
  have Vo_va_61 := A_a
  obtain ⟨cl_va_61, Ar_va_61, q_va_61, S_va_61, M_va_61, H_va_61, G_va_61⟩ := Vo_va_61
  have hin61 : ¬ ((2 : Int32) < 0 ∨ cl_va_61.slots.size ≤ ((2 : Int32)).toNatClampNeg) := inb_of S_va_61 ⟨by decide, by decide⟩
  have hat61 : cl_va_61.slots[((2 : Int32)).toNatClampNeg]? = some (.int (105 : Int32)) := H_va_61.at hin61 rfl
  have pre62 : ∀ t, Steps p.tables e below (s₁.setTop (mkF m 18 #[.val (.ref va), .val (.ref vb), .val (.int (2 : Int32))] [(.int (105 : Int32))])) t → Steps p.tables e below (s₁.setTop (entryFrame m #[(.ref va), (.ref vb)] 3)) t := fun t kt => pre60 _ (X0.baloadBytes hx (j := (2 : Int32)) (v := (.int (105 : Int32))) (by rw [e0]; exact Ar_va_61.1) (State.isArrayOf_alike hZ.alike Ar_va_61.2.1) Ar_va_61.2.2 hin61 hat61 (g := (mkF m 17 #[.val (.ref va), .val (.ref vb), .val (.int (2 : Int32))] [(.int (2 : Int32)), (.ref va)])) rfl rfl (hb hby d5_17) t kt)
  clear pre60 hat61 hin61 G_va_61 H_va_61 M_va_61 S_va_61 q_va_61 Ar_va_61
  have pre63 : ∀ t, Steps p.tables e below (s₁.setTop (mkF m 20 #[.val (.ref va), .val (.ref vb), .val (.int (2 : Int32))] [(.int (2 : Int32)), (.ref vb), (.int (105 : Int32))])) t → Steps p.tables e below (s₁.setTop (entryFrame m #[(.ref va), (.ref vb)] 3)) t := fun t kt => by
    refine pre62 _ ?_
    show Steps p.tables e below (s₁.setTop (mkF m 18 #[.val (.ref va), .val (.ref vb), .val (.int (2 : Int32))] [(.int (105 : Int32))])) _
    refine XS.aloadN X0.here hx rfl (hb hby d5_18) rfl rfl ?_
    show Steps p.tables e below (s₁.setTop (mkF m 19 #[.val (.ref va), .val (.ref vb), .val (.int (2 : Int32))] [(.ref vb), (.int (105 : Int32))])) _
    refine XS.iloadN X0.here hx rfl (hb hby d5_19) rfl ?_
    show Steps p.tables e below (s₁.setTop (mkF m 20 #[.val (.ref va), .val (.ref vb), .val (.int (2 : Int32))] [(.int (2 : Int32)), (.ref vb), (.int (105 : Int32))])) _
    exact kt
  have Vo_vb_64 := A_b
  obtain ⟨cl_vb_64, Ar_vb_64, q_vb_64, S_vb_64, M_vb_64, H_vb_64, G_vb_64⟩ := Vo_vb_64
  have hin64 : ¬ ((2 : Int32) < 0 ∨ cl_vb_64.slots.size ≤ ((2 : Int32)).toNatClampNeg) := inb_of S_vb_64 ⟨by decide, by decide⟩
  have hat64 : cl_vb_64.slots[((2 : Int32)).toNatClampNeg]? = some (.int (105 : Int32)) := H_vb_64.at hin64 rfl
  have pre65 : ∀ t, Steps p.tables e below (s₁.setTop (mkF m 21 #[.val (.ref va), .val (.ref vb), .val (.int (2 : Int32))] [(.int (105 : Int32)), (.int (105 : Int32))])) t → Steps p.tables e below (s₁.setTop (entryFrame m #[(.ref va), (.ref vb)] 3)) t := fun t kt => pre63 _ (X0.baloadBytes hx (j := (2 : Int32)) (v := (.int (105 : Int32))) (by rw [e0]; exact Ar_vb_64.1) (State.isArrayOf_alike hZ.alike Ar_vb_64.2.1) Ar_vb_64.2.2 hin64 hat64 (g := (mkF m 20 #[.val (.ref va), .val (.ref vb), .val (.int (2 : Int32))] [(.int (2 : Int32)), (.ref vb), (.int (105 : Int32))])) rfl rfl (hb hby d5_20) t kt)
  clear pre63 hat64 hin64 G_vb_64 H_vb_64 M_vb_64 S_vb_64 q_vb_64 Ar_vb_64
  have pre67 : ∀ t, Steps p.tables e below (s₁.setTop (mkF m 26 #[.val (.ref va), .val (.ref vb), .val (.int (2 : Int32))] [])) t → Steps p.tables e below (s₁.setTop (entryFrame m #[(.ref va), (.ref vb)] 3)) t := fun t kt => by
    refine pre65 _ ?_
    show Steps p.tables e below (s₁.setTop (mkF m 21 #[.val (.ref va), .val (.ref vb), .val (.int (2 : Int32))] [(.int (105 : Int32)), (.int (105 : Int32))])) _
    refine XS.icmpYes X0.here hx rfl (pc0 := 21) (pc' := 26) rfl (hb hby d5_21) rfl (teq (by decide : (105 : Int32) = (105 : Int32))).1 (by decide) (by decide) ?_
    show Steps p.tables e below (s₁.setTop (mkF m 26 #[.val (.ref va), .val (.ref vb), .val (.int (2 : Int32))] [])) _
    exact kt
  have pre68 : ∀ t, Steps p.tables e below (s₁.setTop (mkF m 11 #[.val (.ref va), .val (.ref vb), .val (.int (3 : Int32))] [(.ref va), (.int (3 : Int32))])) t → Steps p.tables e below (s₁.setTop (entryFrame m #[(.ref va), (.ref vb)] 3)) t := fun t kt => by
    refine pre67 _ ?_
    show Steps p.tables e below (s₁.setTop (mkF m 26 #[.val (.ref va), .val (.ref vb), .val (.int (2 : Int32))] [])) _
    refine XS.iinc X0.here hx rfl (hb hby d5_26) rfl (l' := #[.val (.ref va), .val (.ref vb), .val (.int ((2 : Int32) + (1 : Int32)))]) rfl ?_
    show Steps p.tables e below (s₁.setTop (mkF m 29 #[.val (.ref va), .val (.ref vb), .val (.int (3 : Int32))] [])) _
    refine XS.goto X0.here hx rfl (pc0 := 29) (pc' := 9) rfl (hb hby d5_29) (by decide) (by decide) ?_
    show Steps p.tables e below (s₁.setTop (mkF m 9 #[.val (.ref va), .val (.ref vb), .val (.int (3 : Int32))] [])) _
    refine XS.iloadN X0.here hx rfl (hb hby d5_9) rfl ?_
    show Steps p.tables e below (s₁.setTop (mkF m 10 #[.val (.ref va), .val (.ref vb), .val (.int (3 : Int32))] [(.int (3 : Int32))])) _
    refine XS.aloadN X0.here hx rfl (hb hby d5_10) rfl rfl ?_
    show Steps p.tables e below (s₁.setTop (mkF m 11 #[.val (.ref va), .val (.ref vb), .val (.int (3 : Int32))] [(.ref va), (.int (3 : Int32))])) _
    exact kt
  have Vo_va_69 := A_a
  obtain ⟨cl_va_69, Ar_va_69, q_va_69, S_va_69, M_va_69, H_va_69, G_va_69⟩ := Vo_va_69
  have pre69 : ∀ t, Steps p.tables e below (s₁.setTop (mkF m 12 #[.val (.ref va), .val (.ref vb), .val (.int (3 : Int32))] [(.int (13 : Int32)), (.int (3 : Int32))])) t → Steps p.tables e below (s₁.setTop (entryFrame m #[(.ref va), (.ref vb)] 3)) t := fun t kt => by
    refine pre68 _ ?_
    refine X0.arraylength hx (by rw [e0]; exact Ar_va_69.1) (State.isArrayOf_alike hZ.alike Ar_va_69.2.1) (g := (mkF m 11 #[.val (.ref va), .val (.ref vb), .val (.int (3 : Int32))] [(.ref va), (.int (3 : Int32))])) rfl rfl (hb hby d5_11) _ ?_
    rw [len_of S_va_69 M_va_69]
    exact kt
  clear pre68  G_va_69 H_va_69 M_va_69 S_va_69 q_va_69 Ar_va_69
  have pre71 : ∀ t, Steps p.tables e below (s₁.setTop (mkF m 15 #[.val (.ref va), .val (.ref vb), .val (.int (3 : Int32))] [])) t → Steps p.tables e below (s₁.setTop (entryFrame m #[(.ref va), (.ref vb)] 3)) t := fun t kt => by
    refine pre69 _ ?_
    show Steps p.tables e below (s₁.setTop (mkF m 12 #[.val (.ref va), .val (.ref vb), .val (.int (3 : Int32))] [(.int (13 : Int32)), (.int (3 : Int32))])) _
    refine XS.icmpNo X0.here hx rfl (hb hby d5_12) rfl (tlt (by decide : (3 : Int32) < (13 : Int32))).2.1 ?_
    show Steps p.tables e below (s₁.setTop (mkF m 15 #[.val (.ref va), .val (.ref vb), .val (.int (3 : Int32))] [])) _
    exact kt
  have pre72 : ∀ t, Steps p.tables e below (s₁.setTop (mkF m 17 #[.val (.ref va), .val (.ref vb), .val (.int (3 : Int32))] [(.int (3 : Int32)), (.ref va)])) t → Steps p.tables e below (s₁.setTop (entryFrame m #[(.ref va), (.ref vb)] 3)) t := fun t kt => by
    refine pre71 _ ?_
    show Steps p.tables e below (s₁.setTop (mkF m 15 #[.val (.ref va), .val (.ref vb), .val (.int (3 : Int32))] [])) _
    refine XS.aloadN X0.here hx rfl (hb hby d5_15) rfl rfl ?_
    show Steps p.tables e below (s₁.setTop (mkF m 16 #[.val (.ref va), .val (.ref vb), .val (.int (3 : Int32))] [(.ref va)])) _
    refine XS.iloadN X0.here hx rfl (hb hby d5_16) rfl ?_
    show Steps p.tables e below (s₁.setTop (mkF m 17 #[.val (.ref va), .val (.ref vb), .val (.int (3 : Int32))] [(.int (3 : Int32)), (.ref va)])) _
    exact kt
  have Vo_va_73 := A_a
  obtain ⟨cl_va_73, Ar_va_73, q_va_73, S_va_73, M_va_73, H_va_73, G_va_73⟩ := Vo_va_73
  have hin73 : ¬ ((3 : Int32) < 0 ∨ cl_va_73.slots.size ≤ ((3 : Int32)).toNatClampNeg) := inb_of S_va_73 ⟨by decide, by decide⟩
  have hat73 : cl_va_73.slots[((3 : Int32)).toNatClampNeg]? = some (.int (108 : Int32)) := H_va_73.at hin73 rfl
  have pre74 : ∀ t, Steps p.tables e below (s₁.setTop (mkF m 18 #[.val (.ref va), .val (.ref vb), .val (.int (3 : Int32))] [(.int (108 : Int32))])) t → Steps p.tables e below (s₁.setTop (entryFrame m #[(.ref va), (.ref vb)] 3)) t := fun t kt => pre72 _ (X0.baloadBytes hx (j := (3 : Int32)) (v := (.int (108 : Int32))) (by rw [e0]; exact Ar_va_73.1) (State.isArrayOf_alike hZ.alike Ar_va_73.2.1) Ar_va_73.2.2 hin73 hat73 (g := (mkF m 17 #[.val (.ref va), .val (.ref vb), .val (.int (3 : Int32))] [(.int (3 : Int32)), (.ref va)])) rfl rfl (hb hby d5_17) t kt)
  clear pre72 hat73 hin73 G_va_73 H_va_73 M_va_73 S_va_73 q_va_73 Ar_va_73
  have pre75 : ∀ t, Steps p.tables e below (s₁.setTop (mkF m 20 #[.val (.ref va), .val (.ref vb), .val (.int (3 : Int32))] [(.int (3 : Int32)), (.ref vb), (.int (108 : Int32))])) t → Steps p.tables e below (s₁.setTop (entryFrame m #[(.ref va), (.ref vb)] 3)) t := fun t kt => by
    refine pre74 _ ?_
    show Steps p.tables e below (s₁.setTop (mkF m 18 #[.val (.ref va), .val (.ref vb), .val (.int (3 : Int32))] [(.int (108 : Int32))])) _
    refine XS.aloadN X0.here hx rfl (hb hby d5_18) rfl rfl ?_
    show Steps p.tables e below (s₁.setTop (mkF m 19 #[.val (.ref va), .val (.ref vb), .val (.int (3 : Int32))] [(.ref vb), (.int (108 : Int32))])) _
    refine XS.iloadN X0.here hx rfl (hb hby d5_19) rfl ?_
    show Steps p.tables e below (s₁.setTop (mkF m 20 #[.val (.ref va), .val (.ref vb), .val (.int (3 : Int32))] [(.int (3 : Int32)), (.ref vb), (.int (108 : Int32))])) _
    exact kt
  have Vo_vb_76 := A_b
  obtain ⟨cl_vb_76, Ar_vb_76, q_vb_76, S_vb_76, M_vb_76, H_vb_76, G_vb_76⟩ := Vo_vb_76
  have hin76 : ¬ ((3 : Int32) < 0 ∨ cl_vb_76.slots.size ≤ ((3 : Int32)).toNatClampNeg) := inb_of S_vb_76 ⟨by decide, by decide⟩
  have hat76 : cl_vb_76.slots[((3 : Int32)).toNatClampNeg]? = some (.int (108 : Int32)) := H_vb_76.at hin76 rfl
  have pre77 : ∀ t, Steps p.tables e below (s₁.setTop (mkF m 21 #[.val (.ref va), .val (.ref vb), .val (.int (3 : Int32))] [(.int (108 : Int32)), (.int (108 : Int32))])) t → Steps p.tables e below (s₁.setTop (entryFrame m #[(.ref va), (.ref vb)] 3)) t := fun t kt => pre75 _ (X0.baloadBytes hx (j := (3 : Int32)) (v := (.int (108 : Int32))) (by rw [e0]; exact Ar_vb_76.1) (State.isArrayOf_alike hZ.alike Ar_vb_76.2.1) Ar_vb_76.2.2 hin76 hat76 (g := (mkF m 20 #[.val (.ref va), .val (.ref vb), .val (.int (3 : Int32))] [(.int (3 : Int32)), (.ref vb), (.int (108 : Int32))])) rfl rfl (hb hby d5_20) t kt)
  clear pre75 hat76 hin76 G_vb_76 H_vb_76 M_vb_76 S_vb_76 q_vb_76 Ar_vb_76
  have pre79 : ∀ t, Steps p.tables e below (s₁.setTop (mkF m 26 #[.val (.ref va), .val (.ref vb), .val (.int (3 : Int32))] [])) t → Steps p.tables e below (s₁.setTop (entryFrame m #[(.ref va), (.ref vb)] 3)) t := fun t kt => by
    refine pre77 _ ?_
    show Steps p.tables e below (s₁.setTop (mkF m 21 #[.val (.ref va), .val (.ref vb), .val (.int (3 : Int32))] [(.int (108 : Int32)), (.int (108 : Int32))])) _
    refine XS.icmpYes X0.here hx rfl (pc0 := 21) (pc' := 26) rfl (hb hby d5_21) rfl (teq (by decide : (108 : Int32) = (108 : Int32))).1 (by decide) (by decide) ?_
    show Steps p.tables e below (s₁.setTop (mkF m 26 #[.val (.ref va), .val (.ref vb), .val (.int (3 : Int32))] [])) _
    exact kt
  have pre80 : ∀ t, Steps p.tables e below (s₁.setTop (mkF m 11 #[.val (.ref va), .val (.ref vb), .val (.int (4 : Int32))] [(.ref va), (.int (4 : Int32))])) t → Steps p.tables e below (s₁.setTop (entryFrame m #[(.ref va), (.ref vb)] 3)) t := fun t kt => by
    refine pre79 _ ?_
    show Steps p.tables e below (s₁.setTop (mkF m 26 #[.val (.ref va), .val (.ref vb), .val (.int (3 : Int32))] [])) _
    refine XS.iinc X0.here hx rfl (hb hby d5_26) rfl (l' := #[.val (.ref va), .val (.ref vb), .val (.int ((3 : Int32) + (1 : Int32)))]) rfl ?_
    show Steps p.tables e below (s₁.setTop (mkF m 29 #[.val (.ref va), .val (.ref vb), .val (.int (4 : Int32))] [])) _
    refine XS.goto X0.here hx rfl (pc0 := 29) (pc' := 9) rfl (hb hby d5_29) (by decide) (by decide) ?_
    show Steps p.tables e below (s₁.setTop (mkF m 9 #[.val (.ref va), .val (.ref vb), .val (.int (4 : Int32))] [])) _
    refine XS.iloadN X0.here hx rfl (hb hby d5_9) rfl ?_
    show Steps p.tables e below (s₁.setTop (mkF m 10 #[.val (.ref va), .val (.ref vb), .val (.int (4 : Int32))] [(.int (4 : Int32))])) _
    refine XS.aloadN X0.here hx rfl (hb hby d5_10) rfl rfl ?_
    show Steps p.tables e below (s₁.setTop (mkF m 11 #[.val (.ref va), .val (.ref vb), .val (.int (4 : Int32))] [(.ref va), (.int (4 : Int32))])) _
    exact kt
  have Vo_va_81 := A_a
  obtain ⟨cl_va_81, Ar_va_81, q_va_81, S_va_81, M_va_81, H_va_81, G_va_81⟩ := Vo_va_81
  have pre81 : ∀ t, Steps p.tables e below (s₁.setTop (mkF m 12 #[.val (.ref va), .val (.ref vb), .val (.int (4 : Int32))] [(.int (13 : Int32)), (.int (4 : Int32))])) t → Steps p.tables e below (s₁.setTop (entryFrame m #[(.ref va), (.ref vb)] 3)) t := fun t kt => by
    refine pre80 _ ?_
    refine X0.arraylength hx (by rw [e0]; exact Ar_va_81.1) (State.isArrayOf_alike hZ.alike Ar_va_81.2.1) (g := (mkF m 11 #[.val (.ref va), .val (.ref vb), .val (.int (4 : Int32))] [(.ref va), (.int (4 : Int32))])) rfl rfl (hb hby d5_11) _ ?_
    rw [len_of S_va_81 M_va_81]
    exact kt
  clear pre80  G_va_81 H_va_81 M_va_81 S_va_81 q_va_81 Ar_va_81
  have pre83 : ∀ t, Steps p.tables e below (s₁.setTop (mkF m 15 #[.val (.ref va), .val (.ref vb), .val (.int (4 : Int32))] [])) t → Steps p.tables e below (s₁.setTop (entryFrame m #[(.ref va), (.ref vb)] 3)) t := fun t kt => by
    refine pre81 _ ?_
    show Steps p.tables e below (s₁.setTop (mkF m 12 #[.val (.ref va), .val (.ref vb), .val (.int (4 : Int32))] [(.int (13 : Int32)), (.int (4 : Int32))])) _
    refine XS.icmpNo X0.here hx rfl (hb hby d5_12) rfl (tlt (by decide : (4 : Int32) < (13 : Int32))).2.1 ?_
    show Steps p.tables e below (s₁.setTop (mkF m 15 #[.val (.ref va), .val (.ref vb), .val (.int (4 : Int32))] [])) _
    exact kt
  have pre84 : ∀ t, Steps p.tables e below (s₁.setTop (mkF m 17 #[.val (.ref va), .val (.ref vb), .val (.int (4 : Int32))] [(.int (4 : Int32)), (.ref va)])) t → Steps p.tables e below (s₁.setTop (entryFrame m #[(.ref va), (.ref vb)] 3)) t := fun t kt => by
    refine pre83 _ ?_
    show Steps p.tables e below (s₁.setTop (mkF m 15 #[.val (.ref va), .val (.ref vb), .val (.int (4 : Int32))] [])) _
    refine XS.aloadN X0.here hx rfl (hb hby d5_15) rfl rfl ?_
    show Steps p.tables e below (s₁.setTop (mkF m 16 #[.val (.ref va), .val (.ref vb), .val (.int (4 : Int32))] [(.ref va)])) _
    refine XS.iloadN X0.here hx rfl (hb hby d5_16) rfl ?_
    show Steps p.tables e below (s₁.setTop (mkF m 17 #[.val (.ref va), .val (.ref vb), .val (.int (4 : Int32))] [(.int (4 : Int32)), (.ref va)])) _
    exact kt
  have Vo_va_85 := A_a
  obtain ⟨cl_va_85, Ar_va_85, q_va_85, S_va_85, M_va_85, H_va_85, G_va_85⟩ := Vo_va_85
  have hin85 : ¬ ((4 : Int32) < 0 ∨ cl_va_85.slots.size ≤ ((4 : Int32)).toNatClampNeg) := inb_of S_va_85 ⟨by decide, by decide⟩
  have hat85 : cl_va_85.slots[((4 : Int32)).toNatClampNeg]? = some (.int (121 : Int32)) := H_va_85.at hin85 rfl
  have pre86 : ∀ t, Steps p.tables e below (s₁.setTop (mkF m 18 #[.val (.ref va), .val (.ref vb), .val (.int (4 : Int32))] [(.int (121 : Int32))])) t → Steps p.tables e below (s₁.setTop (entryFrame m #[(.ref va), (.ref vb)] 3)) t := fun t kt => pre84 _ (X0.baloadBytes hx (j := (4 : Int32)) (v := (.int (121 : Int32))) (by rw [e0]; exact Ar_va_85.1) (State.isArrayOf_alike hZ.alike Ar_va_85.2.1) Ar_va_85.2.2 hin85 hat85 (g := (mkF m 17 #[.val (.ref va), .val (.ref vb), .val (.int (4 : Int32))] [(.int (4 : Int32)), (.ref va)])) rfl rfl (hb hby d5_17) t kt)
  clear pre84 hat85 hin85 G_va_85 H_va_85 M_va_85 S_va_85 q_va_85 Ar_va_85
  have pre87 : ∀ t, Steps p.tables e below (s₁.setTop (mkF m 20 #[.val (.ref va), .val (.ref vb), .val (.int (4 : Int32))] [(.int (4 : Int32)), (.ref vb), (.int (121 : Int32))])) t → Steps p.tables e below (s₁.setTop (entryFrame m #[(.ref va), (.ref vb)] 3)) t := fun t kt => by
    refine pre86 _ ?_
    show Steps p.tables e below (s₁.setTop (mkF m 18 #[.val (.ref va), .val (.ref vb), .val (.int (4 : Int32))] [(.int (121 : Int32))])) _
    refine XS.aloadN X0.here hx rfl (hb hby d5_18) rfl rfl ?_
    show Steps p.tables e below (s₁.setTop (mkF m 19 #[.val (.ref va), .val (.ref vb), .val (.int (4 : Int32))] [(.ref vb), (.int (121 : Int32))])) _
    refine XS.iloadN X0.here hx rfl (hb hby d5_19) rfl ?_
    show Steps p.tables e below (s₁.setTop (mkF m 20 #[.val (.ref va), .val (.ref vb), .val (.int (4 : Int32))] [(.int (4 : Int32)), (.ref vb), (.int (121 : Int32))])) _
    exact kt
  have Vo_vb_88 := A_b
  obtain ⟨cl_vb_88, Ar_vb_88, q_vb_88, S_vb_88, M_vb_88, H_vb_88, G_vb_88⟩ := Vo_vb_88
  have hin88 : ¬ ((4 : Int32) < 0 ∨ cl_vb_88.slots.size ≤ ((4 : Int32)).toNatClampNeg) := inb_of S_vb_88 ⟨by decide, by decide⟩
  have hat88 : cl_vb_88.slots[((4 : Int32)).toNatClampNeg]? = some (.int (121 : Int32)) := H_vb_88.at hin88 rfl
  have pre89 : ∀ t, Steps p.tables e below (s₁.setTop (mkF m 21 #[.val (.ref va), .val (.ref vb), .val (.int (4 : Int32))] [(.int (121 : Int32)), (.int (121 : Int32))])) t → Steps p.tables e below (s₁.setTop (entryFrame m #[(.ref va), (.ref vb)] 3)) t := fun t kt => pre87 _ (X0.baloadBytes hx (j := (4 : Int32)) (v := (.int (121 : Int32))) (by rw [e0]; exact Ar_vb_88.1) (State.isArrayOf_alike hZ.alike Ar_vb_88.2.1) Ar_vb_88.2.2 hin88 hat88 (g := (mkF m 20 #[.val (.ref va), .val (.ref vb), .val (.int (4 : Int32))] [(.int (4 : Int32)), (.ref vb), (.int (121 : Int32))])) rfl rfl (hb hby d5_20) t kt)
  clear pre87 hat88 hin88 G_vb_88 H_vb_88 M_vb_88 S_vb_88 q_vb_88 Ar_vb_88
  have pre91 : ∀ t, Steps p.tables e below (s₁.setTop (mkF m 26 #[.val (.ref va), .val (.ref vb), .val (.int (4 : Int32))] [])) t → Steps p.tables e below (s₁.setTop (entryFrame m #[(.ref va), (.ref vb)] 3)) t := fun t kt => by
    refine pre89 _ ?_
    show Steps p.tables e below (s₁.setTop (mkF m 21 #[.val (.ref va), .val (.ref vb), .val (.int (4 : Int32))] [(.int (121 : Int32)), (.int (121 : Int32))])) _
    refine XS.icmpYes X0.here hx rfl (pc0 := 21) (pc' := 26) rfl (hb hby d5_21) rfl (teq (by decide : (121 : Int32) = (121 : Int32))).1 (by decide) (by decide) ?_
    show Steps p.tables e below (s₁.setTop (mkF m 26 #[.val (.ref va), .val (.ref vb), .val (.int (4 : Int32))] [])) _
    exact kt
  have pre92 : ∀ t, Steps p.tables e below (s₁.setTop (mkF m 11 #[.val (.ref va), .val (.ref vb), .val (.int (5 : Int32))] [(.ref va), (.int (5 : Int32))])) t → Steps p.tables e below (s₁.setTop (entryFrame m #[(.ref va), (.ref vb)] 3)) t := fun t kt => by
    refine pre91 _ ?_
    show Steps p.tables e below (s₁.setTop (mkF m 26 #[.val (.ref va), .val (.ref vb), .val (.int (4 : Int32))] [])) _
    refine XS.iinc X0.here hx rfl (hb hby d5_26) rfl (l' := #[.val (.ref va), .val (.ref vb), .val (.int ((4 : Int32) + (1 : Int32)))]) rfl ?_
    show Steps p.tables e below (s₁.setTop (mkF m 29 #[.val (.ref va), .val (.ref vb), .val (.int (5 : Int32))] [])) _
    refine XS.goto X0.here hx rfl (pc0 := 29) (pc' := 9) rfl (hb hby d5_29) (by decide) (by decide) ?_
    show Steps p.tables e below (s₁.setTop (mkF m 9 #[.val (.ref va), .val (.ref vb), .val (.int (5 : Int32))] [])) _
    refine XS.iloadN X0.here hx rfl (hb hby d5_9) rfl ?_
    show Steps p.tables e below (s₁.setTop (mkF m 10 #[.val (.ref va), .val (.ref vb), .val (.int (5 : Int32))] [(.int (5 : Int32))])) _
    refine XS.aloadN X0.here hx rfl (hb hby d5_10) rfl rfl ?_
    show Steps p.tables e below (s₁.setTop (mkF m 11 #[.val (.ref va), .val (.ref vb), .val (.int (5 : Int32))] [(.ref va), (.int (5 : Int32))])) _
    exact kt
  have Vo_va_93 := A_a
  obtain ⟨cl_va_93, Ar_va_93, q_va_93, S_va_93, M_va_93, H_va_93, G_va_93⟩ := Vo_va_93
  have pre93 : ∀ t, Steps p.tables e below (s₁.setTop (mkF m 12 #[.val (.ref va), .val (.ref vb), .val (.int (5 : Int32))] [(.int (13 : Int32)), (.int (5 : Int32))])) t → Steps p.tables e below (s₁.setTop (entryFrame m #[(.ref va), (.ref vb)] 3)) t := fun t kt => by
    refine pre92 _ ?_
    refine X0.arraylength hx (by rw [e0]; exact Ar_va_93.1) (State.isArrayOf_alike hZ.alike Ar_va_93.2.1) (g := (mkF m 11 #[.val (.ref va), .val (.ref vb), .val (.int (5 : Int32))] [(.ref va), (.int (5 : Int32))])) rfl rfl (hb hby d5_11) _ ?_
    rw [len_of S_va_93 M_va_93]
    exact kt
  clear pre92  G_va_93 H_va_93 M_va_93 S_va_93 q_va_93 Ar_va_93
  have pre95 : ∀ t, Steps p.tables e below (s₁.setTop (mkF m 15 #[.val (.ref va), .val (.ref vb), .val (.int (5 : Int32))] [])) t → Steps p.tables e below (s₁.setTop (entryFrame m #[(.ref va), (.ref vb)] 3)) t := fun t kt => by
    refine pre93 _ ?_
    show Steps p.tables e below (s₁.setTop (mkF m 12 #[.val (.ref va), .val (.ref vb), .val (.int (5 : Int32))] [(.int (13 : Int32)), (.int (5 : Int32))])) _
    refine XS.icmpNo X0.here hx rfl (hb hby d5_12) rfl (tlt (by decide : (5 : Int32) < (13 : Int32))).2.1 ?_
    show Steps p.tables e below (s₁.setTop (mkF m 15 #[.val (.ref va), .val (.ref vb), .val (.int (5 : Int32))] [])) _
    exact kt
  have pre96 : ∀ t, Steps p.tables e below (s₁.setTop (mkF m 17 #[.val (.ref va), .val (.ref vb), .val (.int (5 : Int32))] [(.int (5 : Int32)), (.ref va)])) t → Steps p.tables e below (s₁.setTop (entryFrame m #[(.ref va), (.ref vb)] 3)) t := fun t kt => by
    refine pre95 _ ?_
    show Steps p.tables e below (s₁.setTop (mkF m 15 #[.val (.ref va), .val (.ref vb), .val (.int (5 : Int32))] [])) _
    refine XS.aloadN X0.here hx rfl (hb hby d5_15) rfl rfl ?_
    show Steps p.tables e below (s₁.setTop (mkF m 16 #[.val (.ref va), .val (.ref vb), .val (.int (5 : Int32))] [(.ref va)])) _
    refine XS.iloadN X0.here hx rfl (hb hby d5_16) rfl ?_
    show Steps p.tables e below (s₁.setTop (mkF m 17 #[.val (.ref va), .val (.ref vb), .val (.int (5 : Int32))] [(.int (5 : Int32)), (.ref va)])) _
    exact kt
  have Vo_va_97 := A_a
  obtain ⟨cl_va_97, Ar_va_97, q_va_97, S_va_97, M_va_97, H_va_97, G_va_97⟩ := Vo_va_97
  have hin97 : ¬ ((5 : Int32) < 0 ∨ cl_va_97.slots.size ≤ ((5 : Int32)).toNatClampNeg) := inb_of S_va_97 ⟨by decide, by decide⟩
  have hat97 : cl_va_97.slots[((5 : Int32)).toNatClampNeg]? = some (.int (32 : Int32)) := H_va_97.at hin97 rfl
  have pre98 : ∀ t, Steps p.tables e below (s₁.setTop (mkF m 18 #[.val (.ref va), .val (.ref vb), .val (.int (5 : Int32))] [(.int (32 : Int32))])) t → Steps p.tables e below (s₁.setTop (entryFrame m #[(.ref va), (.ref vb)] 3)) t := fun t kt => pre96 _ (X0.baloadBytes hx (j := (5 : Int32)) (v := (.int (32 : Int32))) (by rw [e0]; exact Ar_va_97.1) (State.isArrayOf_alike hZ.alike Ar_va_97.2.1) Ar_va_97.2.2 hin97 hat97 (g := (mkF m 17 #[.val (.ref va), .val (.ref vb), .val (.int (5 : Int32))] [(.int (5 : Int32)), (.ref va)])) rfl rfl (hb hby d5_17) t kt)
  clear pre96 hat97 hin97 G_va_97 H_va_97 M_va_97 S_va_97 q_va_97 Ar_va_97
  have pre99 : ∀ t, Steps p.tables e below (s₁.setTop (mkF m 20 #[.val (.ref va), .val (.ref vb), .val (.int (5 : Int32))] [(.int (5 : Int32)), (.ref vb), (.int (32 : Int32))])) t → Steps p.tables e below (s₁.setTop (entryFrame m #[(.ref va), (.ref vb)] 3)) t := fun t kt => by
    refine pre98 _ ?_
    show Steps p.tables e below (s₁.setTop (mkF m 18 #[.val (.ref va), .val (.ref vb), .val (.int (5 : Int32))] [(.int (32 : Int32))])) _
    refine XS.aloadN X0.here hx rfl (hb hby d5_18) rfl rfl ?_
    show Steps p.tables e below (s₁.setTop (mkF m 19 #[.val (.ref va), .val (.ref vb), .val (.int (5 : Int32))] [(.ref vb), (.int (32 : Int32))])) _
    refine XS.iloadN X0.here hx rfl (hb hby d5_19) rfl ?_
    show Steps p.tables e below (s₁.setTop (mkF m 20 #[.val (.ref va), .val (.ref vb), .val (.int (5 : Int32))] [(.int (5 : Int32)), (.ref vb), (.int (32 : Int32))])) _
    exact kt
  have Vo_vb_100 := A_b
  obtain ⟨cl_vb_100, Ar_vb_100, q_vb_100, S_vb_100, M_vb_100, H_vb_100, G_vb_100⟩ := Vo_vb_100
  have hin100 : ¬ ((5 : Int32) < 0 ∨ cl_vb_100.slots.size ≤ ((5 : Int32)).toNatClampNeg) := inb_of S_vb_100 ⟨by decide, by decide⟩
  have hat100 : cl_vb_100.slots[((5 : Int32)).toNatClampNeg]? = some (.int (32 : Int32)) := H_vb_100.at hin100 rfl
  have pre101 : ∀ t, Steps p.tables e below (s₁.setTop (mkF m 21 #[.val (.ref va), .val (.ref vb), .val (.int (5 : Int32))] [(.int (32 : Int32)), (.int (32 : Int32))])) t → Steps p.tables e below (s₁.setTop (entryFrame m #[(.ref va), (.ref vb)] 3)) t := fun t kt => pre99 _ (X0.baloadBytes hx (j := (5 : Int32)) (v := (.int (32 : Int32))) (by rw [e0]; exact Ar_vb_100.1) (State.isArrayOf_alike hZ.alike Ar_vb_100.2.1) Ar_vb_100.2.2 hin100 hat100 (g := (mkF m 20 #[.val (.ref va), .val (.ref vb), .val (.int (5 : Int32))] [(.int (5 : Int32)), (.ref vb), (.int (32 : Int32))])) rfl rfl (hb hby d5_20) t kt)
  clear pre99 hat100 hin100 G_vb_100 H_vb_100 M_vb_100 S_vb_100 q_vb_100 Ar_vb_100
  have pre103 : ∀ t, Steps p.tables e below (s₁.setTop (mkF m 26 #[.val (.ref va), .val (.ref vb), .val (.int (5 : Int32))] [])) t → Steps p.tables e below (s₁.setTop (entryFrame m #[(.ref va), (.ref vb)] 3)) t := fun t kt => by
    refine pre101 _ ?_
    show Steps p.tables e below (s₁.setTop (mkF m 21 #[.val (.ref va), .val (.ref vb), .val (.int (5 : Int32))] [(.int (32 : Int32)), (.int (32 : Int32))])) _
    refine XS.icmpYes X0.here hx rfl (pc0 := 21) (pc' := 26) rfl (hb hby d5_21) rfl (teq (by decide : (32 : Int32) = (32 : Int32))).1 (by decide) (by decide) ?_
    show Steps p.tables e below (s₁.setTop (mkF m 26 #[.val (.ref va), .val (.ref vb), .val (.int (5 : Int32))] [])) _
    exact kt
  have pre104 : ∀ t, Steps p.tables e below (s₁.setTop (mkF m 11 #[.val (.ref va), .val (.ref vb), .val (.int (6 : Int32))] [(.ref va), (.int (6 : Int32))])) t → Steps p.tables e below (s₁.setTop (entryFrame m #[(.ref va), (.ref vb)] 3)) t := fun t kt => by
    refine pre103 _ ?_
    show Steps p.tables e below (s₁.setTop (mkF m 26 #[.val (.ref va), .val (.ref vb), .val (.int (5 : Int32))] [])) _
    refine XS.iinc X0.here hx rfl (hb hby d5_26) rfl (l' := #[.val (.ref va), .val (.ref vb), .val (.int ((5 : Int32) + (1 : Int32)))]) rfl ?_
    show Steps p.tables e below (s₁.setTop (mkF m 29 #[.val (.ref va), .val (.ref vb), .val (.int (6 : Int32))] [])) _
    refine XS.goto X0.here hx rfl (pc0 := 29) (pc' := 9) rfl (hb hby d5_29) (by decide) (by decide) ?_
    show Steps p.tables e below (s₁.setTop (mkF m 9 #[.val (.ref va), .val (.ref vb), .val (.int (6 : Int32))] [])) _
    refine XS.iloadN X0.here hx rfl (hb hby d5_9) rfl ?_
    show Steps p.tables e below (s₁.setTop (mkF m 10 #[.val (.ref va), .val (.ref vb), .val (.int (6 : Int32))] [(.int (6 : Int32))])) _
    refine XS.aloadN X0.here hx rfl (hb hby d5_10) rfl rfl ?_
    show Steps p.tables e below (s₁.setTop (mkF m 11 #[.val (.ref va), .val (.ref vb), .val (.int (6 : Int32))] [(.ref va), (.int (6 : Int32))])) _
    exact kt
  have Vo_va_105 := A_a
  obtain ⟨cl_va_105, Ar_va_105, q_va_105, S_va_105, M_va_105, H_va_105, G_va_105⟩ := Vo_va_105
  have pre105 : ∀ t, Steps p.tables e below (s₁.setTop (mkF m 12 #[.val (.ref va), .val (.ref vb), .val (.int (6 : Int32))] [(.int (13 : Int32)), (.int (6 : Int32))])) t → Steps p.tables e below (s₁.setTop (entryFrame m #[(.ref va), (.ref vb)] 3)) t := fun t kt => by
    refine pre104 _ ?_
    refine X0.arraylength hx (by rw [e0]; exact Ar_va_105.1) (State.isArrayOf_alike hZ.alike Ar_va_105.2.1) (g := (mkF m 11 #[.val (.ref va), .val (.ref vb), .val (.int (6 : Int32))] [(.ref va), (.int (6 : Int32))])) rfl rfl (hb hby d5_11) _ ?_
    rw [len_of S_va_105 M_va_105]
    exact kt
  clear pre104  G_va_105 H_va_105 M_va_105 S_va_105 q_va_105 Ar_va_105
  have pre107 : ∀ t, Steps p.tables e below (s₁.setTop (mkF m 15 #[.val (.ref va), .val (.ref vb), .val (.int (6 : Int32))] [])) t → Steps p.tables e below (s₁.setTop (entryFrame m #[(.ref va), (.ref vb)] 3)) t := fun t kt => by
    refine pre105 _ ?_
    show Steps p.tables e below (s₁.setTop (mkF m 12 #[.val (.ref va), .val (.ref vb), .val (.int (6 : Int32))] [(.int (13 : Int32)), (.int (6 : Int32))])) _
    refine XS.icmpNo X0.here hx rfl (hb hby d5_12) rfl (tlt (by decide : (6 : Int32) < (13 : Int32))).2.1 ?_
    show Steps p.tables e below (s₁.setTop (mkF m 15 #[.val (.ref va), .val (.ref vb), .val (.int (6 : Int32))] [])) _
    exact kt
  have pre108 : ∀ t, Steps p.tables e below (s₁.setTop (mkF m 17 #[.val (.ref va), .val (.ref vb), .val (.int (6 : Int32))] [(.int (6 : Int32)), (.ref va)])) t → Steps p.tables e below (s₁.setTop (entryFrame m #[(.ref va), (.ref vb)] 3)) t := fun t kt => by
    refine pre107 _ ?_
    show Steps p.tables e below (s₁.setTop (mkF m 15 #[.val (.ref va), .val (.ref vb), .val (.int (6 : Int32))] [])) _
    refine XS.aloadN X0.here hx rfl (hb hby d5_15) rfl rfl ?_
    show Steps p.tables e below (s₁.setTop (mkF m 16 #[.val (.ref va), .val (.ref vb), .val (.int (6 : Int32))] [(.ref va)])) _
    refine XS.iloadN X0.here hx rfl (hb hby d5_16) rfl ?_
    show Steps p.tables e below (s₁.setTop (mkF m 17 #[.val (.ref va), .val (.ref vb), .val (.int (6 : Int32))] [(.int (6 : Int32)), (.ref va)])) _
    exact kt
  have Vo_va_109 := A_a
  obtain ⟨cl_va_109, Ar_va_109, q_va_109, S_va_109, M_va_109, H_va_109, G_va_109⟩ := Vo_va_109
  have hin109 : ¬ ((6 : Int32) < 0 ∨ cl_va_109.slots.size ≤ ((6 : Int32)).toNatClampNeg) := inb_of S_va_109 ⟨by decide, by decide⟩
  have hat109 : cl_va_109.slots[((6 : Int32)).toNatClampNeg]? = some (.int (114 : Int32)) := H_va_109.at hin109 rfl
  have pre110 : ∀ t, Steps p.tables e below (s₁.setTop (mkF m 18 #[.val (.ref va), .val (.ref vb), .val (.int (6 : Int32))] [(.int (114 : Int32))])) t → Steps p.tables e below (s₁.setTop (entryFrame m #[(.ref va), (.ref vb)] 3)) t := fun t kt => pre108 _ (X0.baloadBytes hx (j := (6 : Int32)) (v := (.int (114 : Int32))) (by rw [e0]; exact Ar_va_109.1) (State.isArrayOf_alike hZ.alike Ar_va_109.2.1) Ar_va_109.2.2 hin109 hat109 (g := (mkF m 17 #[.val (.ref va), .val (.ref vb), .val (.int (6 : Int32))] [(.int (6 : Int32)), (.ref va)])) rfl rfl (hb hby d5_17) t kt)
  clear pre108 hat109 hin109 G_va_109 H_va_109 M_va_109 S_va_109 q_va_109 Ar_va_109
  have pre111 : ∀ t, Steps p.tables e below (s₁.setTop (mkF m 20 #[.val (.ref va), .val (.ref vb), .val (.int (6 : Int32))] [(.int (6 : Int32)), (.ref vb), (.int (114 : Int32))])) t → Steps p.tables e below (s₁.setTop (entryFrame m #[(.ref va), (.ref vb)] 3)) t := fun t kt => by
    refine pre110 _ ?_
    show Steps p.tables e below (s₁.setTop (mkF m 18 #[.val (.ref va), .val (.ref vb), .val (.int (6 : Int32))] [(.int (114 : Int32))])) _
    refine XS.aloadN X0.here hx rfl (hb hby d5_18) rfl rfl ?_
    show Steps p.tables e below (s₁.setTop (mkF m 19 #[.val (.ref va), .val (.ref vb), .val (.int (6 : Int32))] [(.ref vb), (.int (114 : Int32))])) _
    refine XS.iloadN X0.here hx rfl (hb hby d5_19) rfl ?_
    show Steps p.tables e below (s₁.setTop (mkF m 20 #[.val (.ref va), .val (.ref vb), .val (.int (6 : Int32))] [(.int (6 : Int32)), (.ref vb), (.int (114 : Int32))])) _
    exact kt
  have Vo_vb_112 := A_b
  obtain ⟨cl_vb_112, Ar_vb_112, q_vb_112, S_vb_112, M_vb_112, H_vb_112, G_vb_112⟩ := Vo_vb_112
  have hin112 : ¬ ((6 : Int32) < 0 ∨ cl_vb_112.slots.size ≤ ((6 : Int32)).toNatClampNeg) := inb_of S_vb_112 ⟨by decide, by decide⟩
  have hat112 : cl_vb_112.slots[((6 : Int32)).toNatClampNeg]? = some (.int (114 : Int32)) := H_vb_112.at hin112 rfl
  have pre113 : ∀ t, Steps p.tables e below (s₁.setTop (mkF m 21 #[.val (.ref va), .val (.ref vb), .val (.int (6 : Int32))] [(.int (114 : Int32)), (.int (114 : Int32))])) t → Steps p.tables e below (s₁.setTop (entryFrame m #[(.ref va), (.ref vb)] 3)) t := fun t kt => pre111 _ (X0.baloadBytes hx (j := (6 : Int32)) (v := (.int (114 : Int32))) (by rw [e0]; exact Ar_vb_112.1) (State.isArrayOf_alike hZ.alike Ar_vb_112.2.1) Ar_vb_112.2.2 hin112 hat112 (g := (mkF m 20 #[.val (.ref va), .val (.ref vb), .val (.int (6 : Int32))] [(.int (6 : Int32)), (.ref vb), (.int (114 : Int32))])) rfl rfl (hb hby d5_20) t kt)
  clear pre111 hat112 hin112 G_vb_112 H_vb_112 M_vb_112 S_vb_112 q_vb_112 Ar_vb_112
  have pre115 : ∀ t, Steps p.tables e below (s₁.setTop (mkF m 26 #[.val (.ref va), .val (.ref vb), .val (.int (6 : Int32))] [])) t → Steps p.tables e below (s₁.setTop (entryFrame m #[(.ref va), (.ref vb)] 3)) t := fun t kt => by
    refine pre113 _ ?_
    show Steps p.tables e below (s₁.setTop (mkF m 21 #[.val (.ref va), .val (.ref vb), .val (.int (6 : Int32))] [(.int (114 : Int32)), (.int (114 : Int32))])) _
    refine XS.icmpYes X0.here hx rfl (pc0 := 21) (pc' := 26) rfl (hb hby d5_21) rfl (teq (by decide : (114 : Int32) = (114 : Int32))).1 (by decide) (by decide) ?_
    show Steps p.tables e below (s₁.setTop (mkF m 26 #[.val (.ref va), .val (.ref vb), .val (.int (6 : Int32))] [])) _
    exact kt
  have pre116 : ∀ t, Steps p.tables e below (s₁.setTop (mkF m 11 #[.val (.ref va), .val (.ref vb), .val (.int (7 : Int32))] [(.ref va), (.int (7 : Int32))])) t → Steps p.tables e below (s₁.setTop (entryFrame m #[(.ref va), (.ref vb)] 3)) t := fun t kt => by
    refine pre115 _ ?_
    show Steps p.tables e below (s₁.setTop (mkF m 26 #[.val (.ref va), .val (.ref vb), .val (.int (6 : Int32))] [])) _
    refine XS.iinc X0.here hx rfl (hb hby d5_26) rfl (l' := #[.val (.ref va), .val (.ref vb), .val (.int ((6 : Int32) + (1 : Int32)))]) rfl ?_
    show Steps p.tables e below (s₁.setTop (mkF m 29 #[.val (.ref va), .val (.ref vb), .val (.int (7 : Int32))] [])) _
    refine XS.goto X0.here hx rfl (pc0 := 29) (pc' := 9) rfl (hb hby d5_29) (by decide) (by decide) ?_
    show Steps p.tables e below (s₁.setTop (mkF m 9 #[.val (.ref va), .val (.ref vb), .val (.int (7 : Int32))] [])) _
    refine XS.iloadN X0.here hx rfl (hb hby d5_9) rfl ?_
    show Steps p.tables e below (s₁.setTop (mkF m 10 #[.val (.ref va), .val (.ref vb), .val (.int (7 : Int32))] [(.int (7 : Int32))])) _
    refine XS.aloadN X0.here hx rfl (hb hby d5_10) rfl rfl ?_
    show Steps p.tables e below (s₁.setTop (mkF m 11 #[.val (.ref va), .val (.ref vb), .val (.int (7 : Int32))] [(.ref va), (.int (7 : Int32))])) _
    exact kt
  have Vo_va_117 := A_a
  obtain ⟨cl_va_117, Ar_va_117, q_va_117, S_va_117, M_va_117, H_va_117, G_va_117⟩ := Vo_va_117
  have pre117 : ∀ t, Steps p.tables e below (s₁.setTop (mkF m 12 #[.val (.ref va), .val (.ref vb), .val (.int (7 : Int32))] [(.int (13 : Int32)), (.int (7 : Int32))])) t → Steps p.tables e below (s₁.setTop (entryFrame m #[(.ref va), (.ref vb)] 3)) t := fun t kt => by
    refine pre116 _ ?_
    refine X0.arraylength hx (by rw [e0]; exact Ar_va_117.1) (State.isArrayOf_alike hZ.alike Ar_va_117.2.1) (g := (mkF m 11 #[.val (.ref va), .val (.ref vb), .val (.int (7 : Int32))] [(.ref va), (.int (7 : Int32))])) rfl rfl (hb hby d5_11) _ ?_
    rw [len_of S_va_117 M_va_117]
    exact kt
  clear pre116  G_va_117 H_va_117 M_va_117 S_va_117 q_va_117 Ar_va_117
  have pre119 : ∀ t, Steps p.tables e below (s₁.setTop (mkF m 15 #[.val (.ref va), .val (.ref vb), .val (.int (7 : Int32))] [])) t → Steps p.tables e below (s₁.setTop (entryFrame m #[(.ref va), (.ref vb)] 3)) t := fun t kt => by
    refine pre117 _ ?_
    show Steps p.tables e below (s₁.setTop (mkF m 12 #[.val (.ref va), .val (.ref vb), .val (.int (7 : Int32))] [(.int (13 : Int32)), (.int (7 : Int32))])) _
    refine XS.icmpNo X0.here hx rfl (hb hby d5_12) rfl (tlt (by decide : (7 : Int32) < (13 : Int32))).2.1 ?_
    show Steps p.tables e below (s₁.setTop (mkF m 15 #[.val (.ref va), .val (.ref vb), .val (.int (7 : Int32))] [])) _
    exact kt
  have pre120 : ∀ t, Steps p.tables e below (s₁.setTop (mkF m 17 #[.val (.ref va), .val (.ref vb), .val (.int (7 : Int32))] [(.int (7 : Int32)), (.ref va)])) t → Steps p.tables e below (s₁.setTop (entryFrame m #[(.ref va), (.ref vb)] 3)) t := fun t kt => by
    refine pre119 _ ?_
    show Steps p.tables e below (s₁.setTop (mkF m 15 #[.val (.ref va), .val (.ref vb), .val (.int (7 : Int32))] [])) _
    refine XS.aloadN X0.here hx rfl (hb hby d5_15) rfl rfl ?_
    show Steps p.tables e below (s₁.setTop (mkF m 16 #[.val (.ref va), .val (.ref vb), .val (.int (7 : Int32))] [(.ref va)])) _
    refine XS.iloadN X0.here hx rfl (hb hby d5_16) rfl ?_
    show Steps p.tables e below (s₁.setTop (mkF m 17 #[.val (.ref va), .val (.ref vb), .val (.int (7 : Int32))] [(.int (7 : Int32)), (.ref va)])) _
    exact kt
  have Vo_va_121 := A_a
  obtain ⟨cl_va_121, Ar_va_121, q_va_121, S_va_121, M_va_121, H_va_121, G_va_121⟩ := Vo_va_121
  have hin121 : ¬ ((7 : Int32) < 0 ∨ cl_va_121.slots.size ≤ ((7 : Int32)).toNatClampNeg) := inb_of S_va_121 ⟨by decide, by decide⟩
  have hat121 : cl_va_121.slots[((7 : Int32)).toNatClampNeg]? = some (.int (101 : Int32)) := H_va_121.at hin121 rfl
  have pre122 : ∀ t, Steps p.tables e below (s₁.setTop (mkF m 18 #[.val (.ref va), .val (.ref vb), .val (.int (7 : Int32))] [(.int (101 : Int32))])) t → Steps p.tables e below (s₁.setTop (entryFrame m #[(.ref va), (.ref vb)] 3)) t := fun t kt => pre120 _ (X0.baloadBytes hx (j := (7 : Int32)) (v := (.int (101 : Int32))) (by rw [e0]; exact Ar_va_121.1) (State.isArrayOf_alike hZ.alike Ar_va_121.2.1) Ar_va_121.2.2 hin121 hat121 (g := (mkF m 17 #[.val (.ref va), .val (.ref vb), .val (.int (7 : Int32))] [(.int (7 : Int32)), (.ref va)])) rfl rfl (hb hby d5_17) t kt)
  clear pre120 hat121 hin121 G_va_121 H_va_121 M_va_121 S_va_121 q_va_121 Ar_va_121
  have pre123 : ∀ t, Steps p.tables e below (s₁.setTop (mkF m 20 #[.val (.ref va), .val (.ref vb), .val (.int (7 : Int32))] [(.int (7 : Int32)), (.ref vb), (.int (101 : Int32))])) t → Steps p.tables e below (s₁.setTop (entryFrame m #[(.ref va), (.ref vb)] 3)) t := fun t kt => by
    refine pre122 _ ?_
    show Steps p.tables e below (s₁.setTop (mkF m 18 #[.val (.ref va), .val (.ref vb), .val (.int (7 : Int32))] [(.int (101 : Int32))])) _
    refine XS.aloadN X0.here hx rfl (hb hby d5_18) rfl rfl ?_
    show Steps p.tables e below (s₁.setTop (mkF m 19 #[.val (.ref va), .val (.ref vb), .val (.int (7 : Int32))] [(.ref vb), (.int (101 : Int32))])) _
    refine XS.iloadN X0.here hx rfl (hb hby d5_19) rfl ?_
    show Steps p.tables e below (s₁.setTop (mkF m 20 #[.val (.ref va), .val (.ref vb), .val (.int (7 : Int32))] [(.int (7 : Int32)), (.ref vb), (.int (101 : Int32))])) _
    exact kt
  have Vo_vb_124 := A_b
  obtain ⟨cl_vb_124, Ar_vb_124, q_vb_124, S_vb_124, M_vb_124, H_vb_124, G_vb_124⟩ := Vo_vb_124
  have hin124 : ¬ ((7 : Int32) < 0 ∨ cl_vb_124.slots.size ≤ ((7 : Int32)).toNatClampNeg) := inb_of S_vb_124 ⟨by decide, by decide⟩
  have hat124 : cl_vb_124.slots[((7 : Int32)).toNatClampNeg]? = some (.int (101 : Int32)) := H_vb_124.at hin124 rfl
  have pre125 : ∀ t, Steps p.tables e below (s₁.setTop (mkF m 21 #[.val (.ref va), .val (.ref vb), .val (.int (7 : Int32))] [(.int (101 : Int32)), (.int (101 : Int32))])) t → Steps p.tables e below (s₁.setTop (entryFrame m #[(.ref va), (.ref vb)] 3)) t := fun t kt => pre123 _ (X0.baloadBytes hx (j := (7 : Int32)) (v := (.int (101 : Int32))) (by rw [e0]; exact Ar_vb_124.1) (State.isArrayOf_alike hZ.alike Ar_vb_124.2.1) Ar_vb_124.2.2 hin124 hat124 (g := (mkF m 20 #[.val (.ref va), .val (.ref vb), .val (.int (7 : Int32))] [(.int (7 : Int32)), (.ref vb), (.int (101 : Int32))])) rfl rfl (hb hby d5_20) t kt)
  clear pre123 hat124 hin124 G_vb_124 H_vb_124 M_vb_124 S_vb_124 q_vb_124 Ar_vb_124
  have pre127 : ∀ t, Steps p.tables e below (s₁.setTop (mkF m 26 #[.val (.ref va), .val (.ref vb), .val (.int (7 : Int32))] [])) t → Steps p.tables e below (s₁.setTop (entryFrame m #[(.ref va), (.ref vb)] 3)) t := fun t kt => by
    refine pre125 _ ?_
    show Steps p.tables e below (s₁.setTop (mkF m 21 #[.val (.ref va), .val (.ref vb), .val (.int (7 : Int32))] [(.int (101 : Int32)), (.int (101 : Int32))])) _
    refine XS.icmpYes X0.here hx rfl (pc0 := 21) (pc' := 26) rfl (hb hby d5_21) rfl (teq (by decide : (101 : Int32) = (101 : Int32))).1 (by decide) (by decide) ?_
    show Steps p.tables e below (s₁.setTop (mkF m 26 #[.val (.ref va), .val (.ref vb), .val (.int (7 : Int32))] [])) _
    exact kt
  have pre128 : ∀ t, Steps p.tables e below (s₁.setTop (mkF m 11 #[.val (.ref va), .val (.ref vb), .val (.int (8 : Int32))] [(.ref va), (.int (8 : Int32))])) t → Steps p.tables e below (s₁.setTop (entryFrame m #[(.ref va), (.ref vb)] 3)) t := fun t kt => by
    refine pre127 _ ?_
    show Steps p.tables e below (s₁.setTop (mkF m 26 #[.val (.ref va), .val (.ref vb), .val (.int (7 : Int32))] [])) _
    refine XS.iinc X0.here hx rfl (hb hby d5_26) rfl (l' := #[.val (.ref va), .val (.ref vb), .val (.int ((7 : Int32) + (1 : Int32)))]) rfl ?_
    show Steps p.tables e below (s₁.setTop (mkF m 29 #[.val (.ref va), .val (.ref vb), .val (.int (8 : Int32))] [])) _
    refine XS.goto X0.here hx rfl (pc0 := 29) (pc' := 9) rfl (hb hby d5_29) (by decide) (by decide) ?_
    show Steps p.tables e below (s₁.setTop (mkF m 9 #[.val (.ref va), .val (.ref vb), .val (.int (8 : Int32))] [])) _
    refine XS.iloadN X0.here hx rfl (hb hby d5_9) rfl ?_
    show Steps p.tables e below (s₁.setTop (mkF m 10 #[.val (.ref va), .val (.ref vb), .val (.int (8 : Int32))] [(.int (8 : Int32))])) _
    refine XS.aloadN X0.here hx rfl (hb hby d5_10) rfl rfl ?_
    show Steps p.tables e below (s₁.setTop (mkF m 11 #[.val (.ref va), .val (.ref vb), .val (.int (8 : Int32))] [(.ref va), (.int (8 : Int32))])) _
    exact kt
  have Vo_va_129 := A_a
  obtain ⟨cl_va_129, Ar_va_129, q_va_129, S_va_129, M_va_129, H_va_129, G_va_129⟩ := Vo_va_129
  have pre129 : ∀ t, Steps p.tables e below (s₁.setTop (mkF m 12 #[.val (.ref va), .val (.ref vb), .val (.int (8 : Int32))] [(.int (13 : Int32)), (.int (8 : Int32))])) t → Steps p.tables e below (s₁.setTop (entryFrame m #[(.ref va), (.ref vb)] 3)) t := fun t kt => by
    refine pre128 _ ?_
    refine X0.arraylength hx (by rw [e0]; exact Ar_va_129.1) (State.isArrayOf_alike hZ.alike Ar_va_129.2.1) (g := (mkF m 11 #[.val (.ref va), .val (.ref vb), .val (.int (8 : Int32))] [(.ref va), (.int (8 : Int32))])) rfl rfl (hb hby d5_11) _ ?_
    rw [len_of S_va_129 M_va_129]
    exact kt
  clear pre128  G_va_129 H_va_129 M_va_129 S_va_129 q_va_129 Ar_va_129
  have pre131 : ∀ t, Steps p.tables e below (s₁.setTop (mkF m 15 #[.val (.ref va), .val (.ref vb), .val (.int (8 : Int32))] [])) t → Steps p.tables e below (s₁.setTop (entryFrame m #[(.ref va), (.ref vb)] 3)) t := fun t kt => by
    refine pre129 _ ?_
    show Steps p.tables e below (s₁.setTop (mkF m 12 #[.val (.ref va), .val (.ref vb), .val (.int (8 : Int32))] [(.int (13 : Int32)), (.int (8 : Int32))])) _
    refine XS.icmpNo X0.here hx rfl (hb hby d5_12) rfl (tlt (by decide : (8 : Int32) < (13 : Int32))).2.1 ?_
    show Steps p.tables e below (s₁.setTop (mkF m 15 #[.val (.ref va), .val (.ref vb), .val (.int (8 : Int32))] [])) _
    exact kt
  have pre132 : ∀ t, Steps p.tables e below (s₁.setTop (mkF m 17 #[.val (.ref va), .val (.ref vb), .val (.int (8 : Int32))] [(.int (8 : Int32)), (.ref va)])) t → Steps p.tables e below (s₁.setTop (entryFrame m #[(.ref va), (.ref vb)] 3)) t := fun t kt => by
    refine pre131 _ ?_
    show Steps p.tables e below (s₁.setTop (mkF m 15 #[.val (.ref va), .val (.ref vb), .val (.int (8 : Int32))] [])) _
    refine XS.aloadN X0.here hx rfl (hb hby d5_15) rfl rfl ?_
    show Steps p.tables e below (s₁.setTop (mkF m 16 #[.val (.ref va), .val (.ref vb), .val (.int (8 : Int32))] [(.ref va)])) _
    refine XS.iloadN X0.here hx rfl (hb hby d5_16) rfl ?_
    show Steps p.tables e below (s₁.setTop (mkF m 17 #[.val (.ref va), .val (.ref vb), .val (.int (8 : Int32))] [(.int (8 : Int32)), (.ref va)])) _
    exact kt
  have Vo_va_133 := A_a
  obtain ⟨cl_va_133, Ar_va_133, q_va_133, S_va_133, M_va_133, H_va_133, G_va_133⟩ := Vo_va_133
  have hin133 : ¬ ((8 : Int32) < 0 ∨ cl_va_133.slots.size ≤ ((8 : Int32)).toNatClampNeg) := inb_of S_va_133 ⟨by decide, by decide⟩
  have hat133 : cl_va_133.slots[((8 : Int32)).toNatClampNeg]? = some (.int (116 : Int32)) := H_va_133.at hin133 rfl
  have pre134 : ∀ t, Steps p.tables e below (s₁.setTop (mkF m 18 #[.val (.ref va), .val (.ref vb), .val (.int (8 : Int32))] [(.int (116 : Int32))])) t → Steps p.tables e below (s₁.setTop (entryFrame m #[(.ref va), (.ref vb)] 3)) t := fun t kt => pre132 _ (X0.baloadBytes hx (j := (8 : Int32)) (v := (.int (116 : Int32))) (by rw [e0]; exact Ar_va_133.1) (State.isArrayOf_alike hZ.alike Ar_va_133.2.1) Ar_va_133.2.2 hin133 hat133 (g := (mkF m 17 #[.val (.ref va), .val (.ref vb), .val (.int (8 : Int32))] [(.int (8 : Int32)), (.ref va)])) rfl rfl (hb hby d5_17) t kt)
  clear pre132 hat133 hin133 G_va_133 H_va_133 M_va_133 S_va_133 q_va_133 Ar_va_133
  have pre135 : ∀ t, Steps p.tables e below (s₁.setTop (mkF m 20 #[.val (.ref va), .val (.ref vb), .val (.int (8 : Int32))] [(.int (8 : Int32)), (.ref vb), (.int (116 : Int32))])) t → Steps p.tables e below (s₁.setTop (entryFrame m #[(.ref va), (.ref vb)] 3)) t := fun t kt => by
    refine pre134 _ ?_
    show Steps p.tables e below (s₁.setTop (mkF m 18 #[.val (.ref va), .val (.ref vb), .val (.int (8 : Int32))] [(.int (116 : Int32))])) _
    refine XS.aloadN X0.here hx rfl (hb hby d5_18) rfl rfl ?_
    show Steps p.tables e below (s₁.setTop (mkF m 19 #[.val (.ref va), .val (.ref vb), .val (.int (8 : Int32))] [(.ref vb), (.int (116 : Int32))])) _
    refine XS.iloadN X0.here hx rfl (hb hby d5_19) rfl ?_
    show Steps p.tables e below (s₁.setTop (mkF m 20 #[.val (.ref va), .val (.ref vb), .val (.int (8 : Int32))] [(.int (8 : Int32)), (.ref vb), (.int (116 : Int32))])) _
    exact kt
  have Vo_vb_136 := A_b
  obtain ⟨cl_vb_136, Ar_vb_136, q_vb_136, S_vb_136, M_vb_136, H_vb_136, G_vb_136⟩ := Vo_vb_136
  have hin136 : ¬ ((8 : Int32) < 0 ∨ cl_vb_136.slots.size ≤ ((8 : Int32)).toNatClampNeg) := inb_of S_vb_136 ⟨by decide, by decide⟩
  have hat136 : cl_vb_136.slots[((8 : Int32)).toNatClampNeg]? = some (.int (116 : Int32)) := H_vb_136.at hin136 rfl
  have pre137 : ∀ t, Steps p.tables e below (s₁.setTop (mkF m 21 #[.val (.ref va), .val (.ref vb), .val (.int (8 : Int32))] [(.int (116 : Int32)), (.int (116 : Int32))])) t → Steps p.tables e below (s₁.setTop (entryFrame m #[(.ref va), (.ref vb)] 3)) t := fun t kt => pre135 _ (X0.baloadBytes hx (j := (8 : Int32)) (v := (.int (116 : Int32))) (by rw [e0]; exact Ar_vb_136.1) (State.isArrayOf_alike hZ.alike Ar_vb_136.2.1) Ar_vb_136.2.2 hin136 hat136 (g := (mkF m 20 #[.val (.ref va), .val (.ref vb), .val (.int (8 : Int32))] [(.int (8 : Int32)), (.ref vb), (.int (116 : Int32))])) rfl rfl (hb hby d5_20) t kt)
  clear pre135 hat136 hin136 G_vb_136 H_vb_136 M_vb_136 S_vb_136 q_vb_136 Ar_vb_136
  have pre139 : ∀ t, Steps p.tables e below (s₁.setTop (mkF m 26 #[.val (.ref va), .val (.ref vb), .val (.int (8 : Int32))] [])) t → Steps p.tables e below (s₁.setTop (entryFrame m #[(.ref va), (.ref vb)] 3)) t := fun t kt => by
    refine pre137 _ ?_
    show Steps p.tables e below (s₁.setTop (mkF m 21 #[.val (.ref va), .val (.ref vb), .val (.int (8 : Int32))] [(.int (116 : Int32)), (.int (116 : Int32))])) _
    refine XS.icmpYes X0.here hx rfl (pc0 := 21) (pc' := 26) rfl (hb hby d5_21) rfl (teq (by decide : (116 : Int32) = (116 : Int32))).1 (by decide) (by decide) ?_
    show Steps p.tables e below (s₁.setTop (mkF m 26 #[.val (.ref va), .val (.ref vb), .val (.int (8 : Int32))] [])) _
    exact kt
  have pre140 : ∀ t, Steps p.tables e below (s₁.setTop (mkF m 11 #[.val (.ref va), .val (.ref vb), .val (.int (9 : Int32))] [(.ref va), (.int (9 : Int32))])) t → Steps p.tables e below (s₁.setTop (entryFrame m #[(.ref va), (.ref vb)] 3)) t := fun t kt => by
    refine pre139 _ ?_
    show Steps p.tables e below (s₁.setTop (mkF m 26 #[.val (.ref va), .val (.ref vb), .val (.int (8 : Int32))] [])) _
    refine XS.iinc X0.here hx rfl (hb hby d5_26) rfl (l' := #[.val (.ref va), .val (.ref vb), .val (.int ((8 : Int32) + (1 : Int32)))]) rfl ?_
    show Steps p.tables e below (s₁.setTop (mkF m 29 #[.val (.ref va), .val (.ref vb), .val (.int (9 : Int32))] [])) _
    refine XS.goto X0.here hx rfl (pc0 := 29) (pc' := 9) rfl (hb hby d5_29) (by decide) (by decide) ?_
    show Steps p.tables e below (s₁.setTop (mkF m 9 #[.val (.ref va), .val (.ref vb), .val (.int (9 : Int32))] [])) _
    refine XS.iloadN X0.here hx rfl (hb hby d5_9) rfl ?_
    show Steps p.tables e below (s₁.setTop (mkF m 10 #[.val (.ref va), .val (.ref vb), .val (.int (9 : Int32))] [(.int (9 : Int32))])) _
    refine XS.aloadN X0.here hx rfl (hb hby d5_10) rfl rfl ?_
    show Steps p.tables e below (s₁.setTop (mkF m 11 #[.val (.ref va), .val (.ref vb), .val (.int (9 : Int32))] [(.ref va), (.int (9 : Int32))])) _
    exact kt
  have Vo_va_141 := A_a
  obtain ⟨cl_va_141, Ar_va_141, q_va_141, S_va_141, M_va_141, H_va_141, G_va_141⟩ := Vo_va_141
  have pre141 : ∀ t, Steps p.tables e below (s₁.setTop (mkF m 12 #[.val (.ref va), .val (.ref vb), .val (.int (9 : Int32))] [(.int (13 : Int32)), (.int (9 : Int32))])) t → Steps p.tables e below (s₁.setTop (entryFrame m #[(.ref va), (.ref vb)] 3)) t := fun t kt => by
    refine pre140 _ ?_
    refine X0.arraylength hx (by rw [e0]; exact Ar_va_141.1) (State.isArrayOf_alike hZ.alike Ar_va_141.2.1) (g := (mkF m 11 #[.val (.ref va), .val (.ref vb), .val (.int (9 : Int32))] [(.ref va), (.int (9 : Int32))])) rfl rfl (hb hby d5_11) _ ?_
    rw [len_of S_va_141 M_va_141]
    exact kt
  clear pre140  G_va_141 H_va_141 M_va_141 S_va_141 q_va_141 Ar_va_141
  have pre143 : ∀ t, Steps p.tables e below (s₁.setTop (mkF m 15 #[.val (.ref va), .val (.ref vb), .val (.int (9 : Int32))] [])) t → Steps p.tables e below (s₁.setTop (entryFrame m #[(.ref va), (.ref vb)] 3)) t := fun t kt => by
    refine pre141 _ ?_
    show Steps p.tables e below (s₁.setTop (mkF m 12 #[.val (.ref va), .val (.ref vb), .val (.int (9 : Int32))] [(.int (13 : Int32)), (.int (9 : Int32))])) _
    refine XS.icmpNo X0.here hx rfl (hb hby d5_12) rfl (tlt (by decide : (9 : Int32) < (13 : Int32))).2.1 ?_
    show Steps p.tables e below (s₁.setTop (mkF m 15 #[.val (.ref va), .val (.ref vb), .val (.int (9 : Int32))] [])) _
    exact kt
  have pre144 : ∀ t, Steps p.tables e below (s₁.setTop (mkF m 17 #[.val (.ref va), .val (.ref vb), .val (.int (9 : Int32))] [(.int (9 : Int32)), (.ref va)])) t → Steps p.tables e below (s₁.setTop (entryFrame m #[(.ref va), (.ref vb)] 3)) t := fun t kt => by
    refine pre143 _ ?_
    show Steps p.tables e below (s₁.setTop (mkF m 15 #[.val (.ref va), .val (.ref vb), .val (.int (9 : Int32))] [])) _
    refine XS.aloadN X0.here hx rfl (hb hby d5_15) rfl rfl ?_
    show Steps p.tables e below (s₁.setTop (mkF m 16 #[.val (.ref va), .val (.ref vb), .val (.int (9 : Int32))] [(.ref va)])) _
    refine XS.iloadN X0.here hx rfl (hb hby d5_16) rfl ?_
    show Steps p.tables e below (s₁.setTop (mkF m 17 #[.val (.ref va), .val (.ref vb), .val (.int (9 : Int32))] [(.int (9 : Int32)), (.ref va)])) _
    exact kt
  have Vo_va_145 := A_a
  obtain ⟨cl_va_145, Ar_va_145, q_va_145, S_va_145, M_va_145, H_va_145, G_va_145⟩ := Vo_va_145
  have hin145 : ¬ ((9 : Int32) < 0 ∨ cl_va_145.slots.size ≤ ((9 : Int32)).toNatClampNeg) := inb_of S_va_145 ⟨by decide, by decide⟩
  have hat145 : cl_va_145.slots[((9 : Int32)).toNatClampNeg]? = some (.int (117 : Int32)) := H_va_145.at hin145 rfl
  have pre146 : ∀ t, Steps p.tables e below (s₁.setTop (mkF m 18 #[.val (.ref va), .val (.ref vb), .val (.int (9 : Int32))] [(.int (117 : Int32))])) t → Steps p.tables e below (s₁.setTop (entryFrame m #[(.ref va), (.ref vb)] 3)) t := fun t kt => pre144 _ (X0.baloadBytes hx (j := (9 : Int32)) (v := (.int (117 : Int32))) (by rw [e0]; exact Ar_va_145.1) (State.isArrayOf_alike hZ.alike Ar_va_145.2.1) Ar_va_145.2.2 hin145 hat145 (g := (mkF m 17 #[.val (.ref va), .val (.ref vb), .val (.int (9 : Int32))] [(.int (9 : Int32)), (.ref va)])) rfl rfl (hb hby d5_17) t kt)
  clear pre144 hat145 hin145 G_va_145 H_va_145 M_va_145 S_va_145 q_va_145 Ar_va_145
  have pre147 : ∀ t, Steps p.tables e below (s₁.setTop (mkF m 20 #[.val (.ref va), .val (.ref vb), .val (.int (9 : Int32))] [(.int (9 : Int32)), (.ref vb), (.int (117 : Int32))])) t → Steps p.tables e below (s₁.setTop (entryFrame m #[(.ref va), (.ref vb)] 3)) t := fun t kt => by
    refine pre146 _ ?_
    show Steps p.tables e below (s₁.setTop (mkF m 18 #[.val (.ref va), .val (.ref vb), .val (.int (9 : Int32))] [(.int (117 : Int32))])) _
    refine XS.aloadN X0.here hx rfl (hb hby d5_18) rfl rfl ?_
    show Steps p.tables e below (s₁.setTop (mkF m 19 #[.val (.ref va), .val (.ref vb), .val (.int (9 : Int32))] [(.ref vb), (.int (117 : Int32))])) _
    refine XS.iloadN X0.here hx rfl (hb hby d5_19) rfl ?_
    show Steps p.tables e below (s₁.setTop (mkF m 20 #[.val (.ref va), .val (.ref vb), .val (.int (9 : Int32))] [(.int (9 : Int32)), (.ref vb), (.int (117 : Int32))])) _
    exact kt
  have Vo_vb_148 := A_b
  obtain ⟨cl_vb_148, Ar_vb_148, q_vb_148, S_vb_148, M_vb_148, H_vb_148, G_vb_148⟩ := Vo_vb_148
  have hin148 : ¬ ((9 : Int32) < 0 ∨ cl_vb_148.slots.size ≤ ((9 : Int32)).toNatClampNeg) := inb_of S_vb_148 ⟨by decide, by decide⟩
  have hat148 : cl_vb_148.slots[((9 : Int32)).toNatClampNeg]? = some (.int (117 : Int32)) := H_vb_148.at hin148 rfl
  have pre149 : ∀ t, Steps p.tables e below (s₁.setTop (mkF m 21 #[.val (.ref va), .val (.ref vb), .val (.int (9 : Int32))] [(.int (117 : Int32)), (.int (117 : Int32))])) t → Steps p.tables e below (s₁.setTop (entryFrame m #[(.ref va), (.ref vb)] 3)) t := fun t kt => pre147 _ (X0.baloadBytes hx (j := (9 : Int32)) (v := (.int (117 : Int32))) (by rw [e0]; exact Ar_vb_148.1) (State.isArrayOf_alike hZ.alike Ar_vb_148.2.1) Ar_vb_148.2.2 hin148 hat148 (g := (mkF m 20 #[.val (.ref va), .val (.ref vb), .val (.int (9 : Int32))] [(.int (9 : Int32)), (.ref vb), (.int (117 : Int32))])) rfl rfl (hb hby d5_20) t kt)
  clear pre147 hat148 hin148 G_vb_148 H_vb_148 M_vb_148 S_vb_148 q_vb_148 Ar_vb_148
  have pre151 : ∀ t, Steps p.tables e below (s₁.setTop (mkF m 26 #[.val (.ref va), .val (.ref vb), .val (.int (9 : Int32))] [])) t → Steps p.tables e below (s₁.setTop (entryFrame m #[(.ref va), (.ref vb)] 3)) t := fun t kt => by
    refine pre149 _ ?_
    show Steps p.tables e below (s₁.setTop (mkF m 21 #[.val (.ref va), .val (.ref vb), .val (.int (9 : Int32))] [(.int (117 : Int32)), (.int (117 : Int32))])) _
    refine XS.icmpYes X0.here hx rfl (pc0 := 21) (pc' := 26) rfl (hb hby d5_21) rfl (teq (by decide : (117 : Int32) = (117 : Int32))).1 (by decide) (by decide) ?_
    show Steps p.tables e below (s₁.setTop (mkF m 26 #[.val (.ref va), .val (.ref vb), .val (.int (9 : Int32))] [])) _
    exact kt
  have pre152 : ∀ t, Steps p.tables e below (s₁.setTop (mkF m 11 #[.val (.ref va), .val (.ref vb), .val (.int (10 : Int32))] [(.ref va), (.int (10 : Int32))])) t → Steps p.tables e below (s₁.setTop (entryFrame m #[(.ref va), (.ref vb)] 3)) t := fun t kt => by
    refine pre151 _ ?_
    show Steps p.tables e below (s₁.setTop (mkF m 26 #[.val (.ref va), .val (.ref vb), .val (.int (9 : Int32))] [])) _
    refine XS.iinc X0.here hx rfl (hb hby d5_26) rfl (l' := #[.val (.ref va), .val (.ref vb), .val (.int ((9 : Int32) + (1 : Int32)))]) rfl ?_
    show Steps p.tables e below (s₁.setTop (mkF m 29 #[.val (.ref va), .val (.ref vb), .val (.int (10 : Int32))] [])) _
    refine XS.goto X0.here hx rfl (pc0 := 29) (pc' := 9) rfl (hb hby d5_29) (by decide) (by decide) ?_
    show Steps p.tables e below (s₁.setTop (mkF m 9 #[.val (.ref va), .val (.ref vb), .val (.int (10 : Int32))] [])) _
    refine XS.iloadN X0.here hx rfl (hb hby d5_9) rfl ?_
    show Steps p.tables e below (s₁.setTop (mkF m 10 #[.val (.ref va), .val (.ref vb), .val (.int (10 : Int32))] [(.int (10 : Int32))])) _
    refine XS.aloadN X0.here hx rfl (hb hby d5_10) rfl rfl ?_
    show Steps p.tables e below (s₁.setTop (mkF m 11 #[.val (.ref va), .val (.ref vb), .val (.int (10 : Int32))] [(.ref va), (.int (10 : Int32))])) _
    exact kt
  have Vo_va_153 := A_a
  obtain ⟨cl_va_153, Ar_va_153, q_va_153, S_va_153, M_va_153, H_va_153, G_va_153⟩ := Vo_va_153
  have pre153 : ∀ t, Steps p.tables e below (s₁.setTop (mkF m 12 #[.val (.ref va), .val (.ref vb), .val (.int (10 : Int32))] [(.int (13 : Int32)), (.int (10 : Int32))])) t → Steps p.tables e below (s₁.setTop (entryFrame m #[(.ref va), (.ref vb)] 3)) t := fun t kt => by
    refine pre152 _ ?_
    refine X0.arraylength hx (by rw [e0]; exact Ar_va_153.1) (State.isArrayOf_alike hZ.alike Ar_va_153.2.1) (g := (mkF m 11 #[.val (.ref va), .val (.ref vb), .val (.int (10 : Int32))] [(.ref va), (.int (10 : Int32))])) rfl rfl (hb hby d5_11) _ ?_
    rw [len_of S_va_153 M_va_153]
    exact kt
  clear pre152  G_va_153 H_va_153 M_va_153 S_va_153 q_va_153 Ar_va_153
  have pre155 : ∀ t, Steps p.tables e below (s₁.setTop (mkF m 15 #[.val (.ref va), .val (.ref vb), .val (.int (10 : Int32))] [])) t → Steps p.tables e below (s₁.setTop (entryFrame m #[(.ref va), (.ref vb)] 3)) t := fun t kt => by
    refine pre153 _ ?_
    show Steps p.tables e below (s₁.setTop (mkF m 12 #[.val (.ref va), .val (.ref vb), .val (.int (10 : Int32))] [(.int (13 : Int32)), (.int (10 : Int32))])) _
    refine XS.icmpNo X0.here hx rfl (hb hby d5_12) rfl (tlt (by decide : (10 : Int32) < (13 : Int32))).2.1 ?_
    show Steps p.tables e below (s₁.setTop (mkF m 15 #[.val (.ref va), .val (.ref vb), .val (.int (10 : Int32))] [])) _
    exact kt
  have pre156 : ∀ t, Steps p.tables e below (s₁.setTop (mkF m 17 #[.val (.ref va), .val (.ref vb), .val (.int (10 : Int32))] [(.int (10 : Int32)), (.ref va)])) t → Steps p.tables e below (s₁.setTop (entryFrame m #[(.ref va), (.ref vb)] 3)) t := fun t kt => by
    refine pre155 _ ?_
    show Steps p.tables e below (s₁.setTop (mkF m 15 #[.val (.ref va), .val (.ref vb), .val (.int (10 : Int32))] [])) _
    refine XS.aloadN X0.here hx rfl (hb hby d5_15) rfl rfl ?_
    show Steps p.tables e below (s₁.setTop (mkF m 16 #[.val (.ref va), .val (.ref vb), .val (.int (10 : Int32))] [(.ref va)])) _
    refine XS.iloadN X0.here hx rfl (hb hby d5_16) rfl ?_
    show Steps p.tables e below (s₁.setTop (mkF m 17 #[.val (.ref va), .val (.ref vb), .val (.int (10 : Int32))] [(.int (10 : Int32)), (.ref va)])) _
    exact kt
  have Vo_va_157 := A_a
  obtain ⟨cl_va_157, Ar_va_157, q_va_157, S_va_157, M_va_157, H_va_157, G_va_157⟩ := Vo_va_157
  have hin157 : ¬ ((10 : Int32) < 0 ∨ cl_va_157.slots.size ≤ ((10 : Int32)).toNatClampNeg) := inb_of S_va_157 ⟨by decide, by decide⟩
  have hat157 : cl_va_157.slots[((10 : Int32)).toNatClampNeg]? = some (.int (114 : Int32)) := H_va_157.at hin157 rfl
  have pre158 : ∀ t, Steps p.tables e below (s₁.setTop (mkF m 18 #[.val (.ref va), .val (.ref vb), .val (.int (10 : Int32))] [(.int (114 : Int32))])) t → Steps p.tables e below (s₁.setTop (entryFrame m #[(.ref va), (.ref vb)] 3)) t := fun t kt => pre156 _ (X0.baloadBytes hx (j := (10 : Int32)) (v := (.int (114 : Int32))) (by rw [e0]; exact Ar_va_157.1) (State.isArrayOf_alike hZ.alike Ar_va_157.2.1) Ar_va_157.2.2 hin157 hat157 (g := (mkF m 17 #[.val (.ref va), .val (.ref vb), .val (.int (10 : Int32))] [(.int (10 : Int32)), (.ref va)])) rfl rfl (hb hby d5_17) t kt)
  clear pre156 hat157 hin157 G_va_157 H_va_157 M_va_157 S_va_157 q_va_157 Ar_va_157
  have pre159 : ∀ t, Steps p.tables e below (s₁.setTop (mkF m 20 #[.val (.ref va), .val (.ref vb), .val (.int (10 : Int32))] [(.int (10 : Int32)), (.ref vb), (.int (114 : Int32))])) t → Steps p.tables e below (s₁.setTop (entryFrame m #[(.ref va), (.ref vb)] 3)) t := fun t kt => by
    refine pre158 _ ?_
    show Steps p.tables e below (s₁.setTop (mkF m 18 #[.val (.ref va), .val (.ref vb), .val (.int (10 : Int32))] [(.int (114 : Int32))])) _
    refine XS.aloadN X0.here hx rfl (hb hby d5_18) rfl rfl ?_
    show Steps p.tables e below (s₁.setTop (mkF m 19 #[.val (.ref va), .val (.ref vb), .val (.int (10 : Int32))] [(.ref vb), (.int (114 : Int32))])) _
    refine XS.iloadN X0.here hx rfl (hb hby d5_19) rfl ?_
    show Steps p.tables e below (s₁.setTop (mkF m 20 #[.val (.ref va), .val (.ref vb), .val (.int (10 : Int32))] [(.int (10 : Int32)), (.ref vb), (.int (114 : Int32))])) _
    exact kt
  have Vo_vb_160 := A_b
  obtain ⟨cl_vb_160, Ar_vb_160, q_vb_160, S_vb_160, M_vb_160, H_vb_160, G_vb_160⟩ := Vo_vb_160
  have hin160 : ¬ ((10 : Int32) < 0 ∨ cl_vb_160.slots.size ≤ ((10 : Int32)).toNatClampNeg) := inb_of S_vb_160 ⟨by decide, by decide⟩
  have hat160 : cl_vb_160.slots[((10 : Int32)).toNatClampNeg]? = some (.int (114 : Int32)) := H_vb_160.at hin160 rfl
  have pre161 : ∀ t, Steps p.tables e below (s₁.setTop (mkF m 21 #[.val (.ref va), .val (.ref vb), .val (.int (10 : Int32))] [(.int (114 : Int32)), (.int (114 : Int32))])) t → Steps p.tables e below (s₁.setTop (entryFrame m #[(.ref va), (.ref vb)] 3)) t := fun t kt => pre159 _ (X0.baloadBytes hx (j := (10 : Int32)) (v := (.int (114 : Int32))) (by rw [e0]; exact Ar_vb_160.1) (State.isArrayOf_alike hZ.alike Ar_vb_160.2.1) Ar_vb_160.2.2 hin160 hat160 (g := (mkF m 20 #[.val (.ref va), .val (.ref vb), .val (.int (10 : Int32))] [(.int (10 : Int32)), (.ref vb), (.int (114 : Int32))])) rfl rfl (hb hby d5_20) t kt)
  clear pre159 hat160 hin160 G_vb_160 H_vb_160 M_vb_160 S_vb_160 q_vb_160 Ar_vb_160
  have pre163 : ∀ t, Steps p.tables e below (s₁.setTop (mkF m 26 #[.val (.ref va), .val (.ref vb), .val (.int (10 : Int32))] [])) t → Steps p.tables e below (s₁.setTop (entryFrame m #[(.ref va), (.ref vb)] 3)) t := fun t kt => by
    refine pre161 _ ?_
    show Steps p.tables e below (s₁.setTop (mkF m 21 #[.val (.ref va), .val (.ref vb), .val (.int (10 : Int32))] [(.int (114 : Int32)), (.int (114 : Int32))])) _
    refine XS.icmpYes X0.here hx rfl (pc0 := 21) (pc' := 26) rfl (hb hby d5_21) rfl (teq (by decide : (114 : Int32) = (114 : Int32))).1 (by decide) (by decide) ?_
    show Steps p.tables e below (s₁.setTop (mkF m 26 #[.val (.ref va), .val (.ref vb), .val (.int (10 : Int32))] [])) _
    exact kt
  have pre164 : ∀ t, Steps p.tables e below (s₁.setTop (mkF m 11 #[.val (.ref va), .val (.ref vb), .val (.int (11 : Int32))] [(.ref va), (.int (11 : Int32))])) t → Steps p.tables e below (s₁.setTop (entryFrame m #[(.ref va), (.ref vb)] 3)) t := fun t kt => by
    refine pre163 _ ?_
    show Steps p.tables e below (s₁.setTop (mkF m 26 #[.val (.ref va), .val (.ref vb), .val (.int (10 : Int32))] [])) _
    refine XS.iinc X0.here hx rfl (hb hby d5_26) rfl (l' := #[.val (.ref va), .val (.ref vb), .val (.int ((10 : Int32) + (1 : Int32)))]) rfl ?_
    show Steps p.tables e below (s₁.setTop (mkF m 29 #[.val (.ref va), .val (.ref vb), .val (.int (11 : Int32))] [])) _
    refine XS.goto X0.here hx rfl (pc0 := 29) (pc' := 9) rfl (hb hby d5_29) (by decide) (by decide) ?_
    show Steps p.tables e below (s₁.setTop (mkF m 9 #[.val (.ref va), .val (.ref vb), .val (.int (11 : Int32))] [])) _
    refine XS.iloadN X0.here hx rfl (hb hby d5_9) rfl ?_
    show Steps p.tables e below (s₁.setTop (mkF m 10 #[.val (.ref va), .val (.ref vb), .val (.int (11 : Int32))] [(.int (11 : Int32))])) _
    refine XS.aloadN X0.here hx rfl (hb hby d5_10) rfl rfl ?_
    show Steps p.tables e below (s₁.setTop (mkF m 11 #[.val (.ref va), .val (.ref vb), .val (.int (11 : Int32))] [(.ref va), (.int (11 : Int32))])) _
    exact kt
  have Vo_va_165 := A_a
  obtain ⟨cl_va_165, Ar_va_165, q_va_165, S_va_165, M_va_165, H_va_165, G_va_165⟩ := Vo_va_165
  have pre165 : ∀ t, Steps p.tables e below (s₁.setTop (mkF m 12 #[.val (.ref va), .val (.ref vb), .val (.int (11 : Int32))] [(.int (13 : Int32)), (.int (11 : Int32))])) t → Steps p.tables e below (s₁.setTop (entryFrame m #[(.ref va), (.ref vb)] 3)) t := fun t kt => by
    refine pre164 _ ?_
    refine X0.arraylength hx (by rw [e0]; exact Ar_va_165.1) (State.isArrayOf_alike hZ.alike Ar_va_165.2.1) (g := (mkF m 11 #[.val (.ref va), .val (.ref vb), .val (.int (11 : Int32))] [(.ref va), (.int (11 : Int32))])) rfl rfl (hb hby d5_11) _ ?_
    rw [len_of S_va_165 M_va_165]
    exact kt
  clear pre164  G_va_165 H_va_165 M_va_165 S_va_165 q_va_165 Ar_va_165
  have pre167 : ∀ t, Steps p.tables e below (s₁.setTop (mkF m 15 #[.val (.ref va), .val (.ref vb), .val (.int (11 : Int32))] [])) t → Steps p.tables e below (s₁.setTop (entryFrame m #[(.ref va), (.ref vb)] 3)) t := fun t kt => by
    refine pre165 _ ?_
    show Steps p.tables e below (s₁.setTop (mkF m 12 #[.val (.ref va), .val (.ref vb), .val (.int (11 : Int32))] [(.int (13 : Int32)), (.int (11 : Int32))])) _
    refine XS.icmpNo X0.here hx rfl (hb hby d5_12) rfl (tlt (by decide : (11 : Int32) < (13 : Int32))).2.1 ?_
    show Steps p.tables e below (s₁.setTop (mkF m 15 #[.val (.ref va), .val (.ref vb), .val (.int (11 : Int32))] [])) _
    exact kt
  have pre168 : ∀ t, Steps p.tables e below (s₁.setTop (mkF m 17 #[.val (.ref va), .val (.ref vb), .val (.int (11 : Int32))] [(.int (11 : Int32)), (.ref va)])) t → Steps p.tables e below (s₁.setTop (entryFrame m #[(.ref va), (.ref vb)] 3)) t := fun t kt => by
    refine pre167 _ ?_
    show Steps p.tables e below (s₁.setTop (mkF m 15 #[.val (.ref va), .val (.ref vb), .val (.int (11 : Int32))] [])) _
    refine XS.aloadN X0.here hx rfl (hb hby d5_15) rfl rfl ?_
    show Steps p.tables e below (s₁.setTop (mkF m 16 #[.val (.ref va), .val (.ref vb), .val (.int (11 : Int32))] [(.ref va)])) _
    refine XS.iloadN X0.here hx rfl (hb hby d5_16) rfl ?_
    show Steps p.tables e below (s₁.setTop (mkF m 17 #[.val (.ref va), .val (.ref vb), .val (.int (11 : Int32))] [(.int (11 : Int32)), (.ref va)])) _
    exact kt
  have Vo_va_169 := A_a
  obtain ⟨cl_va_169, Ar_va_169, q_va_169, S_va_169, M_va_169, H_va_169, G_va_169⟩ := Vo_va_169
  have hin169 : ¬ ((11 : Int32) < 0 ∨ cl_va_169.slots.size ≤ ((11 : Int32)).toNatClampNeg) := inb_of S_va_169 ⟨by decide, by decide⟩
  have hat169 : cl_va_169.slots[((11 : Int32)).toNatClampNeg]? = some (.int (110 : Int32)) := H_va_169.at hin169 rfl
  have pre170 : ∀ t, Steps p.tables e below (s₁.setTop (mkF m 18 #[.val (.ref va), .val (.ref vb), .val (.int (11 : Int32))] [(.int (110 : Int32))])) t → Steps p.tables e below (s₁.setTop (entryFrame m #[(.ref va), (.ref vb)] 3)) t := fun t kt => pre168 _ (X0.baloadBytes hx (j := (11 : Int32)) (v := (.int (110 : Int32))) (by rw [e0]; exact Ar_va_169.1) (State.isArrayOf_alike hZ.alike Ar_va_169.2.1) Ar_va_169.2.2 hin169 hat169 (g := (mkF m 17 #[.val (.ref va), .val (.ref vb), .val (.int (11 : Int32))] [(.int (11 : Int32)), (.ref va)])) rfl rfl (hb hby d5_17) t kt)
  clear pre168 hat169 hin169 G_va_169 H_va_169 M_va_169 S_va_169 q_va_169 Ar_va_169
  have pre171 : ∀ t, Steps p.tables e below (s₁.setTop (mkF m 20 #[.val (.ref va), .val (.ref vb), .val (.int (11 : Int32))] [(.int (11 : Int32)), (.ref vb), (.int (110 : Int32))])) t → Steps p.tables e below (s₁.setTop (entryFrame m #[(.ref va), (.ref vb)] 3)) t := fun t kt => by
    refine pre170 _ ?_
    show Steps p.tables e below (s₁.setTop (mkF m 18 #[.val (.ref va), .val (.ref vb), .val (.int (11 : Int32))] [(.int (110 : Int32))])) _
    refine XS.aloadN X0.here hx rfl (hb hby d5_18) rfl rfl ?_
    show Steps p.tables e below (s₁.setTop (mkF m 19 #[.val (.ref va), .val (.ref vb), .val (.int (11 : Int32))] [(.ref vb), (.int (110 : Int32))])) _
    refine XS.iloadN X0.here hx rfl (hb hby d5_19) rfl ?_
    show Steps p.tables e below (s₁.setTop (mkF m 20 #[.val (.ref va), .val (.ref vb), .val (.int (11 : Int32))] [(.int (11 : Int32)), (.ref vb), (.int (110 : Int32))])) _
    exact kt
  have Vo_vb_172 := A_b
  obtain ⟨cl_vb_172, Ar_vb_172, q_vb_172, S_vb_172, M_vb_172, H_vb_172, G_vb_172⟩ := Vo_vb_172
  have hin172 : ¬ ((11 : Int32) < 0 ∨ cl_vb_172.slots.size ≤ ((11 : Int32)).toNatClampNeg) := inb_of S_vb_172 ⟨by decide, by decide⟩
  have hat172 : cl_vb_172.slots[((11 : Int32)).toNatClampNeg]? = some (.int (110 : Int32)) := H_vb_172.at hin172 rfl
  have pre173 : ∀ t, Steps p.tables e below (s₁.setTop (mkF m 21 #[.val (.ref va), .val (.ref vb), .val (.int (11 : Int32))] [(.int (110 : Int32)), (.int (110 : Int32))])) t → Steps p.tables e below (s₁.setTop (entryFrame m #[(.ref va), (.ref vb)] 3)) t := fun t kt => pre171 _ (X0.baloadBytes hx (j := (11 : Int32)) (v := (.int (110 : Int32))) (by rw [e0]; exact Ar_vb_172.1) (State.isArrayOf_alike hZ.alike Ar_vb_172.2.1) Ar_vb_172.2.2 hin172 hat172 (g := (mkF m 20 #[.val (.ref va), .val (.ref vb), .val (.int (11 : Int32))] [(.int (11 : Int32)), (.ref vb), (.int (110 : Int32))])) rfl rfl (hb hby d5_20) t kt)
  clear pre171 hat172 hin172 G_vb_172 H_vb_172 M_vb_172 S_vb_172 q_vb_172 Ar_vb_172
  have pre175 : ∀ t, Steps p.tables e below (s₁.setTop (mkF m 26 #[.val (.ref va), .val (.ref vb), .val (.int (11 : Int32))] [])) t → Steps p.tables e below (s₁.setTop (entryFrame m #[(.ref va), (.ref vb)] 3)) t := fun t kt => by
    refine pre173 _ ?_
    show Steps p.tables e below (s₁.setTop (mkF m 21 #[.val (.ref va), .val (.ref vb), .val (.int (11 : Int32))] [(.int (110 : Int32)), (.int (110 : Int32))])) _
    refine XS.icmpYes X0.here hx rfl (pc0 := 21) (pc' := 26) rfl (hb hby d5_21) rfl (teq (by decide : (110 : Int32) = (110 : Int32))).1 (by decide) (by decide) ?_
    show Steps p.tables e below (s₁.setTop (mkF m 26 #[.val (.ref va), .val (.ref vb), .val (.int (11 : Int32))] [])) _
    exact kt
  have pre176 : ∀ t, Steps p.tables e below (s₁.setTop (mkF m 11 #[.val (.ref va), .val (.ref vb), .val (.int (12 : Int32))] [(.ref va), (.int (12 : Int32))])) t → Steps p.tables e below (s₁.setTop (entryFrame m #[(.ref va), (.ref vb)] 3)) t := fun t kt => by
    refine pre175 _ ?_
    show Steps p.tables e below (s₁.setTop (mkF m 26 #[.val (.ref va), .val (.ref vb), .val (.int (11 : Int32))] [])) _
    refine XS.iinc X0.here hx rfl (hb hby d5_26) rfl (l' := #[.val (.ref va), .val (.ref vb), .val (.int ((11 : Int32) + (1 : Int32)))]) rfl ?_
    show Steps p.tables e below (s₁.setTop (mkF m 29 #[.val (.ref va), .val (.ref vb), .val (.int (12 : Int32))] [])) _
    refine XS.goto X0.here hx rfl (pc0 := 29) (pc' := 9) rfl (hb hby d5_29) (by decide) (by decide) ?_
    show Steps p.tables e below (s₁.setTop (mkF m 9 #[.val (.ref va), .val (.ref vb), .val (.int (12 : Int32))] [])) _
    refine XS.iloadN X0.here hx rfl (hb hby d5_9) rfl ?_
    show Steps p.tables e below (s₁.setTop (mkF m 10 #[.val (.ref va), .val (.ref vb), .val (.int (12 : Int32))] [(.int (12 : Int32))])) _
    refine XS.aloadN X0.here hx rfl (hb hby d5_10) rfl rfl ?_
    show Steps p.tables e below (s₁.setTop (mkF m 11 #[.val (.ref va), .val (.ref vb), .val (.int (12 : Int32))] [(.ref va), (.int (12 : Int32))])) _
    exact kt
  have Vo_va_177 := A_a
  obtain ⟨cl_va_177, Ar_va_177, q_va_177, S_va_177, M_va_177, H_va_177, G_va_177⟩ := Vo_va_177
  have pre177 : ∀ t, Steps p.tables e below (s₁.setTop (mkF m 12 #[.val (.ref va), .val (.ref vb), .val (.int (12 : Int32))] [(.int (13 : Int32)), (.int (12 : Int32))])) t → Steps p.tables e below (s₁.setTop (entryFrame m #[(.ref va), (.ref vb)] 3)) t := fun t kt => by
    refine pre176 _ ?_
    refine X0.arraylength hx (by rw [e0]; exact Ar_va_177.1) (State.isArrayOf_alike hZ.alike Ar_va_177.2.1) (g := (mkF m 11 #[.val (.ref va), .val (.ref vb), .val (.int (12 : Int32))] [(.ref va), (.int (12 : Int32))])) rfl rfl (hb hby d5_11) _ ?_
    rw [len_of S_va_177 M_va_177]
    exact kt
  clear pre176  G_va_177 H_va_177 M_va_177 S_va_177 q_va_177 Ar_va_177
  have pre179 : ∀ t, Steps p.tables e below (s₁.setTop (mkF m 15 #[.val (.ref va), .val (.ref vb), .val (.int (12 : Int32))] [])) t → Steps p.tables e below (s₁.setTop (entryFrame m #[(.ref va), (.ref vb)] 3)) t := fun t kt => by
    refine pre177 _ ?_
    show Steps p.tables e below (s₁.setTop (mkF m 12 #[.val (.ref va), .val (.ref vb), .val (.int (12 : Int32))] [(.int (13 : Int32)), (.int (12 : Int32))])) _
    refine XS.icmpNo X0.here hx rfl (hb hby d5_12) rfl (tlt (by decide : (12 : Int32) < (13 : Int32))).2.1 ?_
    show Steps p.tables e below (s₁.setTop (mkF m 15 #[.val (.ref va), .val (.ref vb), .val (.int (12 : Int32))] [])) _
    exact kt
  have pre180 : ∀ t, Steps p.tables e below (s₁.setTop (mkF m 17 #[.val (.ref va), .val (.ref vb), .val (.int (12 : Int32))] [(.int (12 : Int32)), (.ref va)])) t → Steps p.tables e below (s₁.setTop (entryFrame m #[(.ref va), (.ref vb)] 3)) t := fun t kt => by
    refine pre179 _ ?_
    show Steps p.tables e below (s₁.setTop (mkF m 15 #[.val (.ref va), .val (.ref vb), .val (.int (12 : Int32))] [])) _
    refine XS.aloadN X0.here hx rfl (hb hby d5_15) rfl rfl ?_
    show Steps p.tables e below (s₁.setTop (mkF m 16 #[.val (.ref va), .val (.ref vb), .val (.int (12 : Int32))] [(.ref va)])) _
    refine XS.iloadN X0.here hx rfl (hb hby d5_16) rfl ?_
    show Steps p.tables e below (s₁.setTop (mkF m 17 #[.val (.ref va), .val (.ref vb), .val (.int (12 : Int32))] [(.int (12 : Int32)), (.ref va)])) _
    exact kt
  have Vo_va_181 := A_a
  obtain ⟨cl_va_181, Ar_va_181, q_va_181, S_va_181, M_va_181, H_va_181, G_va_181⟩ := Vo_va_181
  have hin181 : ¬ ((12 : Int32) < 0 ∨ cl_va_181.slots.size ≤ ((12 : Int32)).toNatClampNeg) := inb_of S_va_181 ⟨by decide, by decide⟩
  have hat181 : cl_va_181.slots[((12 : Int32)).toNatClampNeg]? = some (.int (115 : Int32)) := H_va_181.at hin181 rfl
  have pre182 : ∀ t, Steps p.tables e below (s₁.setTop (mkF m 18 #[.val (.ref va), .val (.ref vb), .val (.int (12 : Int32))] [(.int (115 : Int32))])) t → Steps p.tables e below (s₁.setTop (entryFrame m #[(.ref va), (.ref vb)] 3)) t := fun t kt => pre180 _ (X0.baloadBytes hx (j := (12 : Int32)) (v := (.int (115 : Int32))) (by rw [e0]; exact Ar_va_181.1) (State.isArrayOf_alike hZ.alike Ar_va_181.2.1) Ar_va_181.2.2 hin181 hat181 (g := (mkF m 17 #[.val (.ref va), .val (.ref vb), .val (.int (12 : Int32))] [(.int (12 : Int32)), (.ref va)])) rfl rfl (hb hby d5_17) t kt)
  clear pre180 hat181 hin181 G_va_181 H_va_181 M_va_181 S_va_181 q_va_181 Ar_va_181
  have pre183 : ∀ t, Steps p.tables e below (s₁.setTop (mkF m 20 #[.val (.ref va), .val (.ref vb), .val (.int (12 : Int32))] [(.int (12 : Int32)), (.ref vb), (.int (115 : Int32))])) t → Steps p.tables e below (s₁.setTop (entryFrame m #[(.ref va), (.ref vb)] 3)) t := fun t kt => by
    refine pre182 _ ?_
    show Steps p.tables e below (s₁.setTop (mkF m 18 #[.val (.ref va), .val (.ref vb), .val (.int (12 : Int32))] [(.int (115 : Int32))])) _
    refine XS.aloadN X0.here hx rfl (hb hby d5_18) rfl rfl ?_
    show Steps p.tables e below (s₁.setTop (mkF m 19 #[.val (.ref va), .val (.ref vb), .val (.int (12 : Int32))] [(.ref vb), (.int (115 : Int32))])) _
    refine XS.iloadN X0.here hx rfl (hb hby d5_19) rfl ?_
    show Steps p.tables e below (s₁.setTop (mkF m 20 #[.val (.ref va), .val (.ref vb), .val (.int (12 : Int32))] [(.int (12 : Int32)), (.ref vb), (.int (115 : Int32))])) _
    exact kt
  have Vo_vb_184 := A_b
  obtain ⟨cl_vb_184, Ar_vb_184, q_vb_184, S_vb_184, M_vb_184, H_vb_184, G_vb_184⟩ := Vo_vb_184
  have hin184 : ¬ ((12 : Int32) < 0 ∨ cl_vb_184.slots.size ≤ ((12 : Int32)).toNatClampNeg) := inb_of S_vb_184 ⟨by decide, by decide⟩
  have hat184 : cl_vb_184.slots[((12 : Int32)).toNatClampNeg]? = some (.int (115 : Int32)) := H_vb_184.at hin184 rfl
  have pre185 : ∀ t, Steps p.tables e below (s₁.setTop (mkF m 21 #[.val (.ref va), .val (.ref vb), .val (.int (12 : Int32))] [(.int (115 : Int32)), (.int (115 : Int32))])) t → Steps p.tables e below (s₁.setTop (entryFrame m #[(.ref va), (.ref vb)] 3)) t := fun t kt => pre183 _ (X0.baloadBytes hx (j := (12 : Int32)) (v := (.int (115 : Int32))) (by rw [e0]; exact Ar_vb_184.1) (State.isArrayOf_alike hZ.alike Ar_vb_184.2.1) Ar_vb_184.2.2 hin184 hat184 (g := (mkF m 20 #[.val (.ref va), .val (.ref vb), .val (.int (12 : Int32))] [(.int (12 : Int32)), (.ref vb), (.int (115 : Int32))])) rfl rfl (hb hby d5_20) t kt)
  clear pre183 hat184 hin184 G_vb_184 H_vb_184 M_vb_184 S_vb_184 q_vb_184 Ar_vb_184
  have pre187 : ∀ t, Steps p.tables e below (s₁.setTop (mkF m 26 #[.val (.ref va), .val (.ref vb), .val (.int (12 : Int32))] [])) t → Steps p.tables e below (s₁.setTop (entryFrame m #[(.ref va), (.ref vb)] 3)) t := fun t kt => by
    refine pre185 _ ?_
    show Steps p.tables e below (s₁.setTop (mkF m 21 #[.val (.ref va), .val (.ref vb), .val (.int (12 : Int32))] [(.int (115 : Int32)), (.int (115 : Int32))])) _
    refine XS.icmpYes X0.here hx rfl (pc0 := 21) (pc' := 26) rfl (hb hby d5_21) rfl (teq (by decide : (115 : Int32) = (115 : Int32))).1 (by decide) (by decide) ?_
    show Steps p.tables e below (s₁.setTop (mkF m 26 #[.val (.ref va), .val (.ref vb), .val (.int (12 : Int32))] [])) _
    exact kt
  have pre188 : ∀ t, Steps p.tables e below (s₁.setTop (mkF m 11 #[.val (.ref va), .val (.ref vb), .val (.int (13 : Int32))] [(.ref va), (.int (13 : Int32))])) t → Steps p.tables e below (s₁.setTop (entryFrame m #[(.ref va), (.ref vb)] 3)) t := fun t kt => by
    refine pre187 _ ?_
    show Steps p.tables e below (s₁.setTop (mkF m 26 #[.val (.ref va), .val (.ref vb), .val (.int (12 : Int32))] [])) _
    refine XS.iinc X0.here hx rfl (hb hby d5_26) rfl (l' := #[.val (.ref va), .val (.ref vb), .val (.int ((12 : Int32) + (1 : Int32)))]) rfl ?_
    show Steps p.tables e below (s₁.setTop (mkF m 29 #[.val (.ref va), .val (.ref vb), .val (.int (13 : Int32))] [])) _
    refine XS.goto X0.here hx rfl (pc0 := 29) (pc' := 9) rfl (hb hby d5_29) (by decide) (by decide) ?_
    show Steps p.tables e below (s₁.setTop (mkF m 9 #[.val (.ref va), .val (.ref vb), .val (.int (13 : Int32))] [])) _
    refine XS.iloadN X0.here hx rfl (hb hby d5_9) rfl ?_
    show Steps p.tables e below (s₁.setTop (mkF m 10 #[.val (.ref va), .val (.ref vb), .val (.int (13 : Int32))] [(.int (13 : Int32))])) _
    refine XS.aloadN X0.here hx rfl (hb hby d5_10) rfl rfl ?_
    show Steps p.tables e below (s₁.setTop (mkF m 11 #[.val (.ref va), .val (.ref vb), .val (.int (13 : Int32))] [(.ref va), (.int (13 : Int32))])) _
    exact kt
  have Vo_va_189 := A_a
  obtain ⟨cl_va_189, Ar_va_189, q_va_189, S_va_189, M_va_189, H_va_189, G_va_189⟩ := Vo_va_189
  have pre189 : ∀ t, Steps p.tables e below (s₁.setTop (mkF m 12 #[.val (.ref va), .val (.ref vb), .val (.int (13 : Int32))] [(.int (13 : Int32)), (.int (13 : Int32))])) t → Steps p.tables e below (s₁.setTop (entryFrame m #[(.ref va), (.ref vb)] 3)) t := fun t kt => by
    refine pre188 _ ?_
    refine X0.arraylength hx (by rw [e0]; exact Ar_va_189.1) (State.isArrayOf_alike hZ.alike Ar_va_189.2.1) (g := (mkF m 11 #[.val (.ref va), .val (.ref vb), .val (.int (13 : Int32))] [(.ref va), (.int (13 : Int32))])) rfl rfl (hb hby d5_11) _ ?_
    rw [len_of S_va_189 M_va_189]
    exact kt
  clear pre188  G_va_189 H_va_189 M_va_189 S_va_189 q_va_189 Ar_va_189
  have pre191 : ∀ t, Steps p.tables e below (s₁.setTop (mkF m 32 #[.val (.ref va), .val (.ref vb), .val (.int (13 : Int32))] [])) t → Steps p.tables e below (s₁.setTop (entryFrame m #[(.ref va), (.ref vb)] 3)) t := fun t kt => by
    refine pre189 _ ?_
    show Steps p.tables e below (s₁.setTop (mkF m 12 #[.val (.ref va), .val (.ref vb), .val (.int (13 : Int32))] [(.int (13 : Int32)), (.int (13 : Int32))])) _
    refine XS.icmpYes X0.here hx rfl (pc0 := 12) (pc' := 32) rfl (hb hby d5_12) rfl (flt (by decide : ¬ ((13 : Int32) < (13 : Int32)))).2.1 (by decide) (by decide) ?_
    show Steps p.tables e below (s₁.setTop (mkF m 32 #[.val (.ref va), .val (.ref vb), .val (.int (13 : Int32))] [])) _
    exact kt
  have pre192 : ∀ t, Steps p.tables e below (s₁.setTop (mkF m 33 #[.val (.ref va), .val (.ref vb), .val (.int (13 : Int32))] [(.int (1 : Int32))])) t → Steps p.tables e below (s₁.setTop (entryFrame m #[(.ref va), (.ref vb)] 3)) t := fun t kt => by
    refine pre191 _ ?_
    show Steps p.tables e below (s₁.setTop (mkF m 32 #[.val (.ref va), .val (.ref vb), .val (.int (13 : Int32))] [])) _
    refine XS.iconst X0.here hx rfl (hb hby d5_32) ?_
    show Steps p.tables e below (s₁.setTop (mkF m 33 #[.val (.ref va), .val (.ref vb), .val (.int (13 : Int32))] [(.int (1 : Int32))])) _
    exact kt
  obtain ⟨fs, hr, hrun, hended, hW, hsame⟩ := X0.leave (v := some (.int (1 : Int32))) (fun h => by rw [Bd.returns] at h; cases h)
  refine ⟨_, _, pre192 _ ?_, hrun, hended, _, _, rfl, ?_, ⟨_, rfl⟩, hW, hsame.mono (by decide) (by decide)⟩
  · show Steps p.tables e below (s₁.setTop (mkF m 33 #[.val (.ref va), .val (.ref vb), .val (.int (13 : Int32))] [(.int (1 : Int32))])) _
    exact retN X0 hx (t := .boolean) Bd.returns (by simp) (hb hby d5_33) hr
  · show Q5_a va vb ka kb h0 n0 _ s₁.heap _
    rw [e0]
    exact ⟨rfl, N0, rfl⟩
def Q5_b (va vb : Addr) (ka kb : ClassId) (h0 : Heap) (n0 : Nat) (v : Option Value) (h : Heap) (L : List Loc) : Prop := v = some (.int (1 : Int32)) ∧ Fr n0 L ∧ h = h0
set_option maxRecDepth 65536 in
set_option maxHeartbeats 40000000 in
theorem rm5_b (l : Launch) (Z : State) (aZ : Array Value) (hw : ∀ d ∈ tables_1, d.before aZ Z = true) (ws : List Jvm.Cond) (va vb : Addr) (ka kb : ClassId) (h0 : Heap) (n0 : Nat) (Z0 : n0 ≤ h0.size) (A_a : Arv Z h0 va ka .byte (17 : Int32) [(.int (100 : Int32)), (.int (97 : Int32)), (.int (105 : Int32)), (.int (108 : Int32)), (.int (121 : Int32)), (.int (32 : Int32)), (.int (80 : Int32)), (.int (38 : Int32)), (.int (76 : Int32)), (.int (32 : Int32)), (.int (97 : Int32)), (.int (109 : Int32)), (.int (111 : Int32)), (.int (117 : Int32)), (.int (110 : Int32)), (.int (116 : Int32)), (.int (115 : Int32))] (.int (0 : Int32))) (A_b : Arv Z h0 vb kb .byte (17 : Int32) [(.int (100 : Int32)), (.int (97 : Int32)), (.int (105 : Int32)), (.int (108 : Int32)), (.int (121 : Int32)), (.int (32 : Int32)), (.int (80 : Int32)), (.int (38 : Int32)), (.int (76 : Int32)), (.int (32 : Int32)), (.int (97 : Int32)), (.int (109 : Int32)), (.int (111 : Int32)), (.int (117 : Int32)), (.int (110 : Int32)), (.int (116 : Int32)), (.int (115 : Int32))] (.int (0 : Int32))) :
    MetFree l (⟨"java/lang/StringLatin1", "equals", "([B[B)Z"⟩ : MethodName) (head1 (Jvm.Cond.code (⟨"java/lang/StringLatin1", "equals", "([B[B)Z"⟩ : MethodName) jdk_43_method_13_code 3 (some .boolean) :: ws) ({ frames := 0, cells := 0, slots := 0, locals := 0 } : Room)) (fun a U => a = #[(.ref va), (.ref vb)] ∧ Z.Warmed39 U.vm ∧ U.heap = h0) (fun _ _ _ _ _ => True) (fun _ U oc U' => ∃ v L, oc = .returned v ∧ Q5_b va vb ka kb h0 n0 v U'.heap L ∧ FrameEnd U oc U' L ({ frames := 0, cells := 0, slots := 0, locals := 0 } : Room).cells ({ frames := 0, cells := 0, slots := 0, locals := 0 } : Room).slots) := by
  refine MetFree.of_bodySF (plainFor_of_name pn_5) hisR ?_
  intro p e s m args below meth c s₁ Bd hml0 hP hK
  obtain ⟨rfl, hZ, hh⟩ := hP
  have hx := Bd.exec
  have hby := Bd.bytes
  have hml : c.maxLocals = 3 := hml0
  have hown : s.vm.findClass "java/lang/StringLatin1" = some m.cls := findClass_of_methodNamed Bd.named
  have hnm := (name_of_methodNamed Bd.named Bd.method).1
  have X0 : Stand p l e ({ frames := 0, cells := 0, slots := 0, locals := 0 } : Room) s m #[(.ref va), (.ref vb)] below meth c s₁ [] 0 0 := Stand.of_body Bd
  have e0 : s₁.heap = h0 := by rw [← hh, Bd.state]; rfl
  have N0 := Fr.nil n0
  have pre0 : ∀ t, Steps p.tables e below (s₁.setTop (mkF m 0 #[.val (.ref va), .val (.ref vb), .unset] [])) t → Steps p.tables e below (s₁.setTop (entryFrame m #[(.ref va), (.ref vb)] 3)) t := fun t kt => castTop (ef_5 m va vb) kt
  have pre193 : ∀ t, Steps p.tables e below (s₁.setTop (mkF m 1 #[.val (.ref va), .val (.ref vb), .unset] [(.ref va)])) t → Steps p.tables e below (s₁.setTop (entryFrame m #[(.ref va), (.ref vb)] 3)) t := fun t kt => by
    refine pre0 _ ?_
    show Steps p.tables e below (s₁.setTop (mkF m 0 #[.val (.ref va), .val (.ref vb), .unset] [])) _
    refine XS.aloadN X0.here hx rfl (hb hby d5_0) rfl rfl ?_
    show Steps p.tables e below (s₁.setTop (mkF m 1 #[.val (.ref va), .val (.ref vb), .unset] [(.ref va)])) _
    exact kt
  have Vo_va_194 := A_a
  obtain ⟨cl_va_194, Ar_va_194, q_va_194, S_va_194, M_va_194, H_va_194, G_va_194⟩ := Vo_va_194
  have pre194 : ∀ t, Steps p.tables e below (s₁.setTop (mkF m 2 #[.val (.ref va), .val (.ref vb), .unset] [(.int (17 : Int32))])) t → Steps p.tables e below (s₁.setTop (entryFrame m #[(.ref va), (.ref vb)] 3)) t := fun t kt => by
    refine pre193 _ ?_
    refine X0.arraylength hx (by rw [e0]; exact Ar_va_194.1) (State.isArrayOf_alike hZ.alike Ar_va_194.2.1) (g := (mkF m 1 #[.val (.ref va), .val (.ref vb), .unset] [(.ref va)])) rfl rfl (hb hby d5_1) _ ?_
    rw [len_of S_va_194 M_va_194]
    exact kt
  clear pre193  G_va_194 H_va_194 M_va_194 S_va_194 q_va_194 Ar_va_194
  have pre195 : ∀ t, Steps p.tables e below (s₁.setTop (mkF m 3 #[.val (.ref va), .val (.ref vb), .unset] [(.ref vb), (.int (17 : Int32))])) t → Steps p.tables e below (s₁.setTop (entryFrame m #[(.ref va), (.ref vb)] 3)) t := fun t kt => by
    refine pre194 _ ?_
    show Steps p.tables e below (s₁.setTop (mkF m 2 #[.val (.ref va), .val (.ref vb), .unset] [(.int (17 : Int32))])) _
    refine XS.aloadN X0.here hx rfl (hb hby d5_2) rfl rfl ?_
    show Steps p.tables e below (s₁.setTop (mkF m 3 #[.val (.ref va), .val (.ref vb), .unset] [(.ref vb), (.int (17 : Int32))])) _
    exact kt
  have Vo_vb_196 := A_b
  obtain ⟨cl_vb_196, Ar_vb_196, q_vb_196, S_vb_196, M_vb_196, H_vb_196, G_vb_196⟩ := Vo_vb_196
  have pre196 : ∀ t, Steps p.tables e below (s₁.setTop (mkF m 4 #[.val (.ref va), .val (.ref vb), .unset] [(.int (17 : Int32)), (.int (17 : Int32))])) t → Steps p.tables e below (s₁.setTop (entryFrame m #[(.ref va), (.ref vb)] 3)) t := fun t kt => by
    refine pre195 _ ?_
    refine X0.arraylength hx (by rw [e0]; exact Ar_vb_196.1) (State.isArrayOf_alike hZ.alike Ar_vb_196.2.1) (g := (mkF m 3 #[.val (.ref va), .val (.ref vb), .unset] [(.ref vb), (.int (17 : Int32))])) rfl rfl (hb hby d5_3) _ ?_
    rw [len_of S_vb_196 M_vb_196]
    exact kt
  clear pre195  G_vb_196 H_vb_196 M_vb_196 S_vb_196 q_vb_196 Ar_vb_196
  have pre198 : ∀ t, Steps p.tables e below (s₁.setTop (mkF m 7 #[.val (.ref va), .val (.ref vb), .unset] [])) t → Steps p.tables e below (s₁.setTop (entryFrame m #[(.ref va), (.ref vb)] 3)) t := fun t kt => by
    refine pre196 _ ?_
    show Steps p.tables e below (s₁.setTop (mkF m 4 #[.val (.ref va), .val (.ref vb), .unset] [(.int (17 : Int32)), (.int (17 : Int32))])) _
    refine XS.icmpNo X0.here hx rfl (hb hby d5_4) rfl (teq (by decide : (17 : Int32) = (17 : Int32))).2 ?_
    show Steps p.tables e below (s₁.setTop (mkF m 7 #[.val (.ref va), .val (.ref vb), .unset] [])) _
    exact kt
  have pre199 : ∀ t, Steps p.tables e below (s₁.setTop (mkF m 11 #[.val (.ref va), .val (.ref vb), .val (.int (0 : Int32))] [(.ref va), (.int (0 : Int32))])) t → Steps p.tables e below (s₁.setTop (entryFrame m #[(.ref va), (.ref vb)] 3)) t := fun t kt => by
    refine pre198 _ ?_
    show Steps p.tables e below (s₁.setTop (mkF m 7 #[.val (.ref va), .val (.ref vb), .unset] [])) _
    refine XS.iconst X0.here hx rfl (hb hby d5_7) ?_
    show Steps p.tables e below (s₁.setTop (mkF m 8 #[.val (.ref va), .val (.ref vb), .unset] [(.int (0 : Int32))])) _
    refine XS.istoreN X0.here hx rfl (hb hby d5_8) rfl (l' := #[.val (.ref va), .val (.ref vb), .val (.int (0 : Int32))]) rfl ?_
    show Steps p.tables e below (s₁.setTop (mkF m 9 #[.val (.ref va), .val (.ref vb), .val (.int (0 : Int32))] [])) _
    refine XS.iloadN X0.here hx rfl (hb hby d5_9) rfl ?_
    show Steps p.tables e below (s₁.setTop (mkF m 10 #[.val (.ref va), .val (.ref vb), .val (.int (0 : Int32))] [(.int (0 : Int32))])) _
    refine XS.aloadN X0.here hx rfl (hb hby d5_10) rfl rfl ?_
    show Steps p.tables e below (s₁.setTop (mkF m 11 #[.val (.ref va), .val (.ref vb), .val (.int (0 : Int32))] [(.ref va), (.int (0 : Int32))])) _
    exact kt
  have Vo_va_200 := A_a
  obtain ⟨cl_va_200, Ar_va_200, q_va_200, S_va_200, M_va_200, H_va_200, G_va_200⟩ := Vo_va_200
  have pre200 : ∀ t, Steps p.tables e below (s₁.setTop (mkF m 12 #[.val (.ref va), .val (.ref vb), .val (.int (0 : Int32))] [(.int (17 : Int32)), (.int (0 : Int32))])) t → Steps p.tables e below (s₁.setTop (entryFrame m #[(.ref va), (.ref vb)] 3)) t := fun t kt => by
    refine pre199 _ ?_
    refine X0.arraylength hx (by rw [e0]; exact Ar_va_200.1) (State.isArrayOf_alike hZ.alike Ar_va_200.2.1) (g := (mkF m 11 #[.val (.ref va), .val (.ref vb), .val (.int (0 : Int32))] [(.ref va), (.int (0 : Int32))])) rfl rfl (hb hby d5_11) _ ?_
    rw [len_of S_va_200 M_va_200]
    exact kt
  clear pre199  G_va_200 H_va_200 M_va_200 S_va_200 q_va_200 Ar_va_200
  have pre202 : ∀ t, Steps p.tables e below (s₁.setTop (mkF m 15 #[.val (.ref va), .val (.ref vb), .val (.int (0 : Int32))] [])) t → Steps p.tables e below (s₁.setTop (entryFrame m #[(.ref va), (.ref vb)] 3)) t := fun t kt => by
    refine pre200 _ ?_
    show Steps p.tables e below (s₁.setTop (mkF m 12 #[.val (.ref va), .val (.ref vb), .val (.int (0 : Int32))] [(.int (17 : Int32)), (.int (0 : Int32))])) _
    refine XS.icmpNo X0.here hx rfl (hb hby d5_12) rfl (tlt (by decide : (0 : Int32) < (17 : Int32))).2.1 ?_
    show Steps p.tables e below (s₁.setTop (mkF m 15 #[.val (.ref va), .val (.ref vb), .val (.int (0 : Int32))] [])) _
    exact kt
  have pre203 : ∀ t, Steps p.tables e below (s₁.setTop (mkF m 17 #[.val (.ref va), .val (.ref vb), .val (.int (0 : Int32))] [(.int (0 : Int32)), (.ref va)])) t → Steps p.tables e below (s₁.setTop (entryFrame m #[(.ref va), (.ref vb)] 3)) t := fun t kt => by
    refine pre202 _ ?_
    show Steps p.tables e below (s₁.setTop (mkF m 15 #[.val (.ref va), .val (.ref vb), .val (.int (0 : Int32))] [])) _
    refine XS.aloadN X0.here hx rfl (hb hby d5_15) rfl rfl ?_
    show Steps p.tables e below (s₁.setTop (mkF m 16 #[.val (.ref va), .val (.ref vb), .val (.int (0 : Int32))] [(.ref va)])) _
    refine XS.iloadN X0.here hx rfl (hb hby d5_16) rfl ?_
    show Steps p.tables e below (s₁.setTop (mkF m 17 #[.val (.ref va), .val (.ref vb), .val (.int (0 : Int32))] [(.int (0 : Int32)), (.ref va)])) _
    exact kt
  have Vo_va_204 := A_a
  obtain ⟨cl_va_204, Ar_va_204, q_va_204, S_va_204, M_va_204, H_va_204, G_va_204⟩ := Vo_va_204
  have hin204 : ¬ ((0 : Int32) < 0 ∨ cl_va_204.slots.size ≤ ((0 : Int32)).toNatClampNeg) := inb_of S_va_204 ⟨by decide, by decide⟩
  have hat204 : cl_va_204.slots[((0 : Int32)).toNatClampNeg]? = some (.int (100 : Int32)) := H_va_204.at hin204 rfl
  have pre205 : ∀ t, Steps p.tables e below (s₁.setTop (mkF m 18 #[.val (.ref va), .val (.ref vb), .val (.int (0 : Int32))] [(.int (100 : Int32))])) t → Steps p.tables e below (s₁.setTop (entryFrame m #[(.ref va), (.ref vb)] 3)) t := fun t kt => pre203 _ (X0.baloadBytes hx (j := (0 : Int32)) (v := (.int (100 : Int32))) (by rw [e0]; exact Ar_va_204.1) (State.isArrayOf_alike hZ.alike Ar_va_204.2.1) Ar_va_204.2.2 hin204 hat204 (g := (mkF m 17 #[.val (.ref va), .val (.ref vb), .val (.int (0 : Int32))] [(.int (0 : Int32)), (.ref va)])) rfl rfl (hb hby d5_17) t kt)
  clear pre203 hat204 hin204 G_va_204 H_va_204 M_va_204 S_va_204 q_va_204 Ar_va_204
  have pre206 : ∀ t, Steps p.tables e below (s₁.setTop (mkF m 20 #[.val (.ref va), .val (.ref vb), .val (.int (0 : Int32))] [(.int (0 : Int32)), (.ref vb), (.int (100 : Int32))])) t → Steps p.tables e below (s₁.setTop (entryFrame m #[(.ref va), (.ref vb)] 3)) t := fun t kt => by
    refine pre205 _ ?_
    show Steps p.tables e below (s₁.setTop (mkF m 18 #[.val (.ref va), .val (.ref vb), .val (.int (0 : Int32))] [(.int (100 : Int32))])) _
    refine XS.aloadN X0.here hx rfl (hb hby d5_18) rfl rfl ?_
    show Steps p.tables e below (s₁.setTop (mkF m 19 #[.val (.ref va), .val (.ref vb), .val (.int (0 : Int32))] [(.ref vb), (.int (100 : Int32))])) _
    refine XS.iloadN X0.here hx rfl (hb hby d5_19) rfl ?_
    show Steps p.tables e below (s₁.setTop (mkF m 20 #[.val (.ref va), .val (.ref vb), .val (.int (0 : Int32))] [(.int (0 : Int32)), (.ref vb), (.int (100 : Int32))])) _
    exact kt
  have Vo_vb_207 := A_b
  obtain ⟨cl_vb_207, Ar_vb_207, q_vb_207, S_vb_207, M_vb_207, H_vb_207, G_vb_207⟩ := Vo_vb_207
  have hin207 : ¬ ((0 : Int32) < 0 ∨ cl_vb_207.slots.size ≤ ((0 : Int32)).toNatClampNeg) := inb_of S_vb_207 ⟨by decide, by decide⟩
  have hat207 : cl_vb_207.slots[((0 : Int32)).toNatClampNeg]? = some (.int (100 : Int32)) := H_vb_207.at hin207 rfl
  have pre208 : ∀ t, Steps p.tables e below (s₁.setTop (mkF m 21 #[.val (.ref va), .val (.ref vb), .val (.int (0 : Int32))] [(.int (100 : Int32)), (.int (100 : Int32))])) t → Steps p.tables e below (s₁.setTop (entryFrame m #[(.ref va), (.ref vb)] 3)) t := fun t kt => pre206 _ (X0.baloadBytes hx (j := (0 : Int32)) (v := (.int (100 : Int32))) (by rw [e0]; exact Ar_vb_207.1) (State.isArrayOf_alike hZ.alike Ar_vb_207.2.1) Ar_vb_207.2.2 hin207 hat207 (g := (mkF m 20 #[.val (.ref va), .val (.ref vb), .val (.int (0 : Int32))] [(.int (0 : Int32)), (.ref vb), (.int (100 : Int32))])) rfl rfl (hb hby d5_20) t kt)
  clear pre206 hat207 hin207 G_vb_207 H_vb_207 M_vb_207 S_vb_207 q_vb_207 Ar_vb_207
  have pre210 : ∀ t, Steps p.tables e below (s₁.setTop (mkF m 26 #[.val (.ref va), .val (.ref vb), .val (.int (0 : Int32))] [])) t → Steps p.tables e below (s₁.setTop (entryFrame m #[(.ref va), (.ref vb)] 3)) t := fun t kt => by
    refine pre208 _ ?_
    show Steps p.tables e below (s₁.setTop (mkF m 21 #[.val (.ref va), .val (.ref vb), .val (.int (0 : Int32))] [(.int (100 : Int32)), (.int (100 : Int32))])) _
    refine XS.icmpYes X0.here hx rfl (pc0 := 21) (pc' := 26) rfl (hb hby d5_21) rfl (teq (by decide : (100 : Int32) = (100 : Int32))).1 (by decide) (by decide) ?_
    show Steps p.tables e below (s₁.setTop (mkF m 26 #[.val (.ref va), .val (.ref vb), .val (.int (0 : Int32))] [])) _
    exact kt
  have pre211 : ∀ t, Steps p.tables e below (s₁.setTop (mkF m 11 #[.val (.ref va), .val (.ref vb), .val (.int (1 : Int32))] [(.ref va), (.int (1 : Int32))])) t → Steps p.tables e below (s₁.setTop (entryFrame m #[(.ref va), (.ref vb)] 3)) t := fun t kt => by
    refine pre210 _ ?_
    show Steps p.tables e below (s₁.setTop (mkF m 26 #[.val (.ref va), .val (.ref vb), .val (.int (0 : Int32))] [])) _
    refine XS.iinc X0.here hx rfl (hb hby d5_26) rfl (l' := #[.val (.ref va), .val (.ref vb), .val (.int ((0 : Int32) + (1 : Int32)))]) rfl ?_
    show Steps p.tables e below (s₁.setTop (mkF m 29 #[.val (.ref va), .val (.ref vb), .val (.int (1 : Int32))] [])) _
    refine XS.goto X0.here hx rfl (pc0 := 29) (pc' := 9) rfl (hb hby d5_29) (by decide) (by decide) ?_
    show Steps p.tables e below (s₁.setTop (mkF m 9 #[.val (.ref va), .val (.ref vb), .val (.int (1 : Int32))] [])) _
    refine XS.iloadN X0.here hx rfl (hb hby d5_9) rfl ?_
    show Steps p.tables e below (s₁.setTop (mkF m 10 #[.val (.ref va), .val (.ref vb), .val (.int (1 : Int32))] [(.int (1 : Int32))])) _
    refine XS.aloadN X0.here hx rfl (hb hby d5_10) rfl rfl ?_
    show Steps p.tables e below (s₁.setTop (mkF m 11 #[.val (.ref va), .val (.ref vb), .val (.int (1 : Int32))] [(.ref va), (.int (1 : Int32))])) _
    exact kt
  have Vo_va_212 := A_a
  obtain ⟨cl_va_212, Ar_va_212, q_va_212, S_va_212, M_va_212, H_va_212, G_va_212⟩ := Vo_va_212
  have pre212 : ∀ t, Steps p.tables e below (s₁.setTop (mkF m 12 #[.val (.ref va), .val (.ref vb), .val (.int (1 : Int32))] [(.int (17 : Int32)), (.int (1 : Int32))])) t → Steps p.tables e below (s₁.setTop (entryFrame m #[(.ref va), (.ref vb)] 3)) t := fun t kt => by
    refine pre211 _ ?_
    refine X0.arraylength hx (by rw [e0]; exact Ar_va_212.1) (State.isArrayOf_alike hZ.alike Ar_va_212.2.1) (g := (mkF m 11 #[.val (.ref va), .val (.ref vb), .val (.int (1 : Int32))] [(.ref va), (.int (1 : Int32))])) rfl rfl (hb hby d5_11) _ ?_
    rw [len_of S_va_212 M_va_212]
    exact kt
  clear pre211  G_va_212 H_va_212 M_va_212 S_va_212 q_va_212 Ar_va_212
  have pre214 : ∀ t, Steps p.tables e below (s₁.setTop (mkF m 15 #[.val (.ref va), .val (.ref vb), .val (.int (1 : Int32))] [])) t → Steps p.tables e below (s₁.setTop (entryFrame m #[(.ref va), (.ref vb)] 3)) t := fun t kt => by
    refine pre212 _ ?_
    show Steps p.tables e below (s₁.setTop (mkF m 12 #[.val (.ref va), .val (.ref vb), .val (.int (1 : Int32))] [(.int (17 : Int32)), (.int (1 : Int32))])) _
    refine XS.icmpNo X0.here hx rfl (hb hby d5_12) rfl (tlt (by decide : (1 : Int32) < (17 : Int32))).2.1 ?_
    show Steps p.tables e below (s₁.setTop (mkF m 15 #[.val (.ref va), .val (.ref vb), .val (.int (1 : Int32))] [])) _
    exact kt
  have pre215 : ∀ t, Steps p.tables e below (s₁.setTop (mkF m 17 #[.val (.ref va), .val (.ref vb), .val (.int (1 : Int32))] [(.int (1 : Int32)), (.ref va)])) t → Steps p.tables e below (s₁.setTop (entryFrame m #[(.ref va), (.ref vb)] 3)) t := fun t kt => by
    refine pre214 _ ?_
    show Steps p.tables e below (s₁.setTop (mkF m 15 #[.val (.ref va), .val (.ref vb), .val (.int (1 : Int32))] [])) _
    refine XS.aloadN X0.here hx rfl (hb hby d5_15) rfl rfl ?_
    show Steps p.tables e below (s₁.setTop (mkF m 16 #[.val (.ref va), .val (.ref vb), .val (.int (1 : Int32))] [(.ref va)])) _
    refine XS.iloadN X0.here hx rfl (hb hby d5_16) rfl ?_
    show Steps p.tables e below (s₁.setTop (mkF m 17 #[.val (.ref va), .val (.ref vb), .val (.int (1 : Int32))] [(.int (1 : Int32)), (.ref va)])) _
    exact kt
  have Vo_va_216 := A_a
  obtain ⟨cl_va_216, Ar_va_216, q_va_216, S_va_216, M_va_216, H_va_216, G_va_216⟩ := Vo_va_216
  have hin216 : ¬ ((1 : Int32) < 0 ∨ cl_va_216.slots.size ≤ ((1 : Int32)).toNatClampNeg) := inb_of S_va_216 ⟨by decide, by decide⟩
  have hat216 : cl_va_216.slots[((1 : Int32)).toNatClampNeg]? = some (.int (97 : Int32)) := H_va_216.at hin216 rfl
  have pre217 : ∀ t, Steps p.tables e below (s₁.setTop (mkF m 18 #[.val (.ref va), .val (.ref vb), .val (.int (1 : Int32))] [(.int (97 : Int32))])) t → Steps p.tables e below (s₁.setTop (entryFrame m #[(.ref va), (.ref vb)] 3)) t := fun t kt => pre215 _ (X0.baloadBytes hx (j := (1 : Int32)) (v := (.int (97 : Int32))) (by rw [e0]; exact Ar_va_216.1) (State.isArrayOf_alike hZ.alike Ar_va_216.2.1) Ar_va_216.2.2 hin216 hat216 (g := (mkF m 17 #[.val (.ref va), .val (.ref vb), .val (.int (1 : Int32))] [(.int (1 : Int32)), (.ref va)])) rfl rfl (hb hby d5_17) t kt)
  clear pre215 hat216 hin216 G_va_216 H_va_216 M_va_216 S_va_216 q_va_216 Ar_va_216
  have pre218 : ∀ t, Steps p.tables e below (s₁.setTop (mkF m 20 #[.val (.ref va), .val (.ref vb), .val (.int (1 : Int32))] [(.int (1 : Int32)), (.ref vb), (.int (97 : Int32))])) t → Steps p.tables e below (s₁.setTop (entryFrame m #[(.ref va), (.ref vb)] 3)) t := fun t kt => by
    refine pre217 _ ?_
    show Steps p.tables e below (s₁.setTop (mkF m 18 #[.val (.ref va), .val (.ref vb), .val (.int (1 : Int32))] [(.int (97 : Int32))])) _
    refine XS.aloadN X0.here hx rfl (hb hby d5_18) rfl rfl ?_
    show Steps p.tables e below (s₁.setTop (mkF m 19 #[.val (.ref va), .val (.ref vb), .val (.int (1 : Int32))] [(.ref vb), (.int (97 : Int32))])) _
    refine XS.iloadN X0.here hx rfl (hb hby d5_19) rfl ?_
    show Steps p.tables e below (s₁.setTop (mkF m 20 #[.val (.ref va), .val (.ref vb), .val (.int (1 : Int32))] [(.int (1 : Int32)), (.ref vb), (.int (97 : Int32))])) _
    exact kt
  have Vo_vb_219 := A_b
  obtain ⟨cl_vb_219, Ar_vb_219, q_vb_219, S_vb_219, M_vb_219, H_vb_219, G_vb_219⟩ := Vo_vb_219
  have hin219 : ¬ ((1 : Int32) < 0 ∨ cl_vb_219.slots.size ≤ ((1 : Int32)).toNatClampNeg) := inb_of S_vb_219 ⟨by decide, by decide⟩
  have hat219 : cl_vb_219.slots[((1 : Int32)).toNatClampNeg]? = some (.int (97 : Int32)) := H_vb_219.at hin219 rfl
  have pre220 : ∀ t, Steps p.tables e below (s₁.setTop (mkF m 21 #[.val (.ref va), .val (.ref vb), .val (.int (1 : Int32))] [(.int (97 : Int32)), (.int (97 : Int32))])) t → Steps p.tables e below (s₁.setTop (entryFrame m #[(.ref va), (.ref vb)] 3)) t := fun t kt => pre218 _ (X0.baloadBytes hx (j := (1 : Int32)) (v := (.int (97 : Int32))) (by rw [e0]; exact Ar_vb_219.1) (State.isArrayOf_alike hZ.alike Ar_vb_219.2.1) Ar_vb_219.2.2 hin219 hat219 (g := (mkF m 20 #[.val (.ref va), .val (.ref vb), .val (.int (1 : Int32))] [(.int (1 : Int32)), (.ref vb), (.int (97 : Int32))])) rfl rfl (hb hby d5_20) t kt)
  clear pre218 hat219 hin219 G_vb_219 H_vb_219 M_vb_219 S_vb_219 q_vb_219 Ar_vb_219
  have pre222 : ∀ t, Steps p.tables e below (s₁.setTop (mkF m 26 #[.val (.ref va), .val (.ref vb), .val (.int (1 : Int32))] [])) t → Steps p.tables e below (s₁.setTop (entryFrame m #[(.ref va), (.ref vb)] 3)) t := fun t kt => by
    refine pre220 _ ?_
    show Steps p.tables e below (s₁.setTop (mkF m 21 #[.val (.ref va), .val (.ref vb), .val (.int (1 : Int32))] [(.int (97 : Int32)), (.int (97 : Int32))])) _
    refine XS.icmpYes X0.here hx rfl (pc0 := 21) (pc' := 26) rfl (hb hby d5_21) rfl (teq (by decide : (97 : Int32) = (97 : Int32))).1 (by decide) (by decide) ?_
    show Steps p.tables e below (s₁.setTop (mkF m 26 #[.val (.ref va), .val (.ref vb), .val (.int (1 : Int32))] [])) _
    exact kt
  have pre223 : ∀ t, Steps p.tables e below (s₁.setTop (mkF m 11 #[.val (.ref va), .val (.ref vb), .val (.int (2 : Int32))] [(.ref va), (.int (2 : Int32))])) t → Steps p.tables e below (s₁.setTop (entryFrame m #[(.ref va), (.ref vb)] 3)) t := fun t kt => by
    refine pre222 _ ?_
    show Steps p.tables e below (s₁.setTop (mkF m 26 #[.val (.ref va), .val (.ref vb), .val (.int (1 : Int32))] [])) _
    refine XS.iinc X0.here hx rfl (hb hby d5_26) rfl (l' := #[.val (.ref va), .val (.ref vb), .val (.int ((1 : Int32) + (1 : Int32)))]) rfl ?_
    show Steps p.tables e below (s₁.setTop (mkF m 29 #[.val (.ref va), .val (.ref vb), .val (.int (2 : Int32))] [])) _
    refine XS.goto X0.here hx rfl (pc0 := 29) (pc' := 9) rfl (hb hby d5_29) (by decide) (by decide) ?_
    show Steps p.tables e below (s₁.setTop (mkF m 9 #[.val (.ref va), .val (.ref vb), .val (.int (2 : Int32))] [])) _
    refine XS.iloadN X0.here hx rfl (hb hby d5_9) rfl ?_
    show Steps p.tables e below (s₁.setTop (mkF m 10 #[.val (.ref va), .val (.ref vb), .val (.int (2 : Int32))] [(.int (2 : Int32))])) _
    refine XS.aloadN X0.here hx rfl (hb hby d5_10) rfl rfl ?_
    show Steps p.tables e below (s₁.setTop (mkF m 11 #[.val (.ref va), .val (.ref vb), .val (.int (2 : Int32))] [(.ref va), (.int (2 : Int32))])) _
    exact kt
  have Vo_va_224 := A_a
  obtain ⟨cl_va_224, Ar_va_224, q_va_224, S_va_224, M_va_224, H_va_224, G_va_224⟩ := Vo_va_224
  have pre224 : ∀ t, Steps p.tables e below (s₁.setTop (mkF m 12 #[.val (.ref va), .val (.ref vb), .val (.int (2 : Int32))] [(.int (17 : Int32)), (.int (2 : Int32))])) t → Steps p.tables e below (s₁.setTop (entryFrame m #[(.ref va), (.ref vb)] 3)) t := fun t kt => by
    refine pre223 _ ?_
    refine X0.arraylength hx (by rw [e0]; exact Ar_va_224.1) (State.isArrayOf_alike hZ.alike Ar_va_224.2.1) (g := (mkF m 11 #[.val (.ref va), .val (.ref vb), .val (.int (2 : Int32))] [(.ref va), (.int (2 : Int32))])) rfl rfl (hb hby d5_11) _ ?_
    rw [len_of S_va_224 M_va_224]
    exact kt
  clear pre223  G_va_224 H_va_224 M_va_224 S_va_224 q_va_224 Ar_va_224
  have pre226 : ∀ t, Steps p.tables e below (s₁.setTop (mkF m 15 #[.val (.ref va), .val (.ref vb), .val (.int (2 : Int32))] [])) t → Steps p.tables e below (s₁.setTop (entryFrame m #[(.ref va), (.ref vb)] 3)) t := fun t kt => by
    refine pre224 _ ?_
    show Steps p.tables e below (s₁.setTop (mkF m 12 #[.val (.ref va), .val (.ref vb), .val (.int (2 : Int32))] [(.int (17 : Int32)), (.int (2 : Int32))])) _
    refine XS.icmpNo X0.here hx rfl (hb hby d5_12) rfl (tlt (by decide : (2 : Int32) < (17 : Int32))).2.1 ?_
    show Steps p.tables e below (s₁.setTop (mkF m 15 #[.val (.ref va), .val (.ref vb), .val (.int (2 : Int32))] [])) _
    exact kt
  have pre227 : ∀ t, Steps p.tables e below (s₁.setTop (mkF m 17 #[.val (.ref va), .val (.ref vb), .val (.int (2 : Int32))] [(.int (2 : Int32)), (.ref va)])) t → Steps p.tables e below (s₁.setTop (entryFrame m #[(.ref va), (.ref vb)] 3)) t := fun t kt => by
    refine pre226 _ ?_
    show Steps p.tables e below (s₁.setTop (mkF m 15 #[.val (.ref va), .val (.ref vb), .val (.int (2 : Int32))] [])) _
    refine XS.aloadN X0.here hx rfl (hb hby d5_15) rfl rfl ?_
    show Steps p.tables e below (s₁.setTop (mkF m 16 #[.val (.ref va), .val (.ref vb), .val (.int (2 : Int32))] [(.ref va)])) _
    refine XS.iloadN X0.here hx rfl (hb hby d5_16) rfl ?_
    show Steps p.tables e below (s₁.setTop (mkF m 17 #[.val (.ref va), .val (.ref vb), .val (.int (2 : Int32))] [(.int (2 : Int32)), (.ref va)])) _
    exact kt
  have Vo_va_228 := A_a
  obtain ⟨cl_va_228, Ar_va_228, q_va_228, S_va_228, M_va_228, H_va_228, G_va_228⟩ := Vo_va_228
  have hin228 : ¬ ((2 : Int32) < 0 ∨ cl_va_228.slots.size ≤ ((2 : Int32)).toNatClampNeg) := inb_of S_va_228 ⟨by decide, by decide⟩
  have hat228 : cl_va_228.slots[((2 : Int32)).toNatClampNeg]? = some (.int (105 : Int32)) := H_va_228.at hin228 rfl
  have pre229 : ∀ t, Steps p.tables e below (s₁.setTop (mkF m 18 #[.val (.ref va), .val (.ref vb), .val (.int (2 : Int32))] [(.int (105 : Int32))])) t → Steps p.tables e below (s₁.setTop (entryFrame m #[(.ref va), (.ref vb)] 3)) t := fun t kt => pre227 _ (X0.baloadBytes hx (j := (2 : Int32)) (v := (.int (105 : Int32))) (by rw [e0]; exact Ar_va_228.1) (State.isArrayOf_alike hZ.alike Ar_va_228.2.1) Ar_va_228.2.2 hin228 hat228 (g := (mkF m 17 #[.val (.ref va), .val (.ref vb), .val (.int (2 : Int32))] [(.int (2 : Int32)), (.ref va)])) rfl rfl (hb hby d5_17) t kt)
  clear pre227 hat228 hin228 G_va_228 H_va_228 M_va_228 S_va_228 q_va_228 Ar_va_228
  have pre230 : ∀ t, Steps p.tables e below (s₁.setTop (mkF m 20 #[.val (.ref va), .val (.ref vb), .val (.int (2 : Int32))] [(.int (2 : Int32)), (.ref vb), (.int (105 : Int32))])) t → Steps p.tables e below (s₁.setTop (entryFrame m #[(.ref va), (.ref vb)] 3)) t := fun t kt => by
    refine pre229 _ ?_
    show Steps p.tables e below (s₁.setTop (mkF m 18 #[.val (.ref va), .val (.ref vb), .val (.int (2 : Int32))] [(.int (105 : Int32))])) _
    refine XS.aloadN X0.here hx rfl (hb hby d5_18) rfl rfl ?_
    show Steps p.tables e below (s₁.setTop (mkF m 19 #[.val (.ref va), .val (.ref vb), .val (.int (2 : Int32))] [(.ref vb), (.int (105 : Int32))])) _
    refine XS.iloadN X0.here hx rfl (hb hby d5_19) rfl ?_
    show Steps p.tables e below (s₁.setTop (mkF m 20 #[.val (.ref va), .val (.ref vb), .val (.int (2 : Int32))] [(.int (2 : Int32)), (.ref vb), (.int (105 : Int32))])) _
    exact kt
  have Vo_vb_231 := A_b
  obtain ⟨cl_vb_231, Ar_vb_231, q_vb_231, S_vb_231, M_vb_231, H_vb_231, G_vb_231⟩ := Vo_vb_231
  have hin231 : ¬ ((2 : Int32) < 0 ∨ cl_vb_231.slots.size ≤ ((2 : Int32)).toNatClampNeg) := inb_of S_vb_231 ⟨by decide, by decide⟩
  have hat231 : cl_vb_231.slots[((2 : Int32)).toNatClampNeg]? = some (.int (105 : Int32)) := H_vb_231.at hin231 rfl
  have pre232 : ∀ t, Steps p.tables e below (s₁.setTop (mkF m 21 #[.val (.ref va), .val (.ref vb), .val (.int (2 : Int32))] [(.int (105 : Int32)), (.int (105 : Int32))])) t → Steps p.tables e below (s₁.setTop (entryFrame m #[(.ref va), (.ref vb)] 3)) t := fun t kt => pre230 _ (X0.baloadBytes hx (j := (2 : Int32)) (v := (.int (105 : Int32))) (by rw [e0]; exact Ar_vb_231.1) (State.isArrayOf_alike hZ.alike Ar_vb_231.2.1) Ar_vb_231.2.2 hin231 hat231 (g := (mkF m 20 #[.val (.ref va), .val (.ref vb), .val (.int (2 : Int32))] [(.int (2 : Int32)), (.ref vb), (.int (105 : Int32))])) rfl rfl (hb hby d5_20) t kt)
  clear pre230 hat231 hin231 G_vb_231 H_vb_231 M_vb_231 S_vb_231 q_vb_231 Ar_vb_231
  have pre234 : ∀ t, Steps p.tables e below (s₁.setTop (mkF m 26 #[.val (.ref va), .val (.ref vb), .val (.int (2 : Int32))] [])) t → Steps p.tables e below (s₁.setTop (entryFrame m #[(.ref va), (.ref vb)] 3)) t := fun t kt => by
    refine pre232 _ ?_
    show Steps p.tables e below (s₁.setTop (mkF m 21 #[.val (.ref va), .val (.ref vb), .val (.int (2 : Int32))] [(.int (105 : Int32)), (.int (105 : Int32))])) _
    refine XS.icmpYes X0.here hx rfl (pc0 := 21) (pc' := 26) rfl (hb hby d5_21) rfl (teq (by decide : (105 : Int32) = (105 : Int32))).1 (by decide) (by decide) ?_
    show Steps p.tables e below (s₁.setTop (mkF m 26 #[.val (.ref va), .val (.ref vb), .val (.int (2 : Int32))] [])) _
    exact kt
  have pre235 : ∀ t, Steps p.tables e below (s₁.setTop (mkF m 11 #[.val (.ref va), .val (.ref vb), .val (.int (3 : Int32))] [(.ref va), (.int (3 : Int32))])) t → Steps p.tables e below (s₁.setTop (entryFrame m #[(.ref va), (.ref vb)] 3)) t := fun t kt => by
    refine pre234 _ ?_
    show Steps p.tables e below (s₁.setTop (mkF m 26 #[.val (.ref va), .val (.ref vb), .val (.int (2 : Int32))] [])) _
    refine XS.iinc X0.here hx rfl (hb hby d5_26) rfl (l' := #[.val (.ref va), .val (.ref vb), .val (.int ((2 : Int32) + (1 : Int32)))]) rfl ?_
    show Steps p.tables e below (s₁.setTop (mkF m 29 #[.val (.ref va), .val (.ref vb), .val (.int (3 : Int32))] [])) _
    refine XS.goto X0.here hx rfl (pc0 := 29) (pc' := 9) rfl (hb hby d5_29) (by decide) (by decide) ?_
    show Steps p.tables e below (s₁.setTop (mkF m 9 #[.val (.ref va), .val (.ref vb), .val (.int (3 : Int32))] [])) _
    refine XS.iloadN X0.here hx rfl (hb hby d5_9) rfl ?_
    show Steps p.tables e below (s₁.setTop (mkF m 10 #[.val (.ref va), .val (.ref vb), .val (.int (3 : Int32))] [(.int (3 : Int32))])) _
    refine XS.aloadN X0.here hx rfl (hb hby d5_10) rfl rfl ?_
    show Steps p.tables e below (s₁.setTop (mkF m 11 #[.val (.ref va), .val (.ref vb), .val (.int (3 : Int32))] [(.ref va), (.int (3 : Int32))])) _
    exact kt
  have Vo_va_236 := A_a
  obtain ⟨cl_va_236, Ar_va_236, q_va_236, S_va_236, M_va_236, H_va_236, G_va_236⟩ := Vo_va_236
  have pre236 : ∀ t, Steps p.tables e below (s₁.setTop (mkF m 12 #[.val (.ref va), .val (.ref vb), .val (.int (3 : Int32))] [(.int (17 : Int32)), (.int (3 : Int32))])) t → Steps p.tables e below (s₁.setTop (entryFrame m #[(.ref va), (.ref vb)] 3)) t := fun t kt => by
    refine pre235 _ ?_
    refine X0.arraylength hx (by rw [e0]; exact Ar_va_236.1) (State.isArrayOf_alike hZ.alike Ar_va_236.2.1) (g := (mkF m 11 #[.val (.ref va), .val (.ref vb), .val (.int (3 : Int32))] [(.ref va), (.int (3 : Int32))])) rfl rfl (hb hby d5_11) _ ?_
    rw [len_of S_va_236 M_va_236]
    exact kt
  clear pre235  G_va_236 H_va_236 M_va_236 S_va_236 q_va_236 Ar_va_236
  have pre238 : ∀ t, Steps p.tables e below (s₁.setTop (mkF m 15 #[.val (.ref va), .val (.ref vb), .val (.int (3 : Int32))] [])) t → Steps p.tables e below (s₁.setTop (entryFrame m #[(.ref va), (.ref vb)] 3)) t := fun t kt => by
    refine pre236 _ ?_
    show Steps p.tables e below (s₁.setTop (mkF m 12 #[.val (.ref va), .val (.ref vb), .val (.int (3 : Int32))] [(.int (17 : Int32)), (.int (3 : Int32))])) _
    refine XS.icmpNo X0.here hx rfl (hb hby d5_12) rfl (tlt (by decide : (3 : Int32) < (17 : Int32))).2.1 ?_
    show Steps p.tables e below (s₁.setTop (mkF m 15 #[.val (.ref va), .val (.ref vb), .val (.int (3 : Int32))] [])) _
    exact kt
  have pre239 : ∀ t, Steps p.tables e below (s₁.setTop (mkF m 17 #[.val (.ref va), .val (.ref vb), .val (.int (3 : Int32))] [(.int (3 : Int32)), (.ref va)])) t → Steps p.tables e below (s₁.setTop (entryFrame m #[(.ref va), (.ref vb)] 3)) t := fun t kt => by
    refine pre238 _ ?_
    show Steps p.tables e below (s₁.setTop (mkF m 15 #[.val (.ref va), .val (.ref vb), .val (.int (3 : Int32))] [])) _
    refine XS.aloadN X0.here hx rfl (hb hby d5_15) rfl rfl ?_
    show Steps p.tables e below (s₁.setTop (mkF m 16 #[.val (.ref va), .val (.ref vb), .val (.int (3 : Int32))] [(.ref va)])) _
    refine XS.iloadN X0.here hx rfl (hb hby d5_16) rfl ?_
    show Steps p.tables e below (s₁.setTop (mkF m 17 #[.val (.ref va), .val (.ref vb), .val (.int (3 : Int32))] [(.int (3 : Int32)), (.ref va)])) _
    exact kt
  have Vo_va_240 := A_a
  obtain ⟨cl_va_240, Ar_va_240, q_va_240, S_va_240, M_va_240, H_va_240, G_va_240⟩ := Vo_va_240
  have hin240 : ¬ ((3 : Int32) < 0 ∨ cl_va_240.slots.size ≤ ((3 : Int32)).toNatClampNeg) := inb_of S_va_240 ⟨by decide, by decide⟩
  have hat240 : cl_va_240.slots[((3 : Int32)).toNatClampNeg]? = some (.int (108 : Int32)) := H_va_240.at hin240 rfl
  have pre241 : ∀ t, Steps p.tables e below (s₁.setTop (mkF m 18 #[.val (.ref va), .val (.ref vb), .val (.int (3 : Int32))] [(.int (108 : Int32))])) t → Steps p.tables e below (s₁.setTop (entryFrame m #[(.ref va), (.ref vb)] 3)) t := fun t kt => pre239 _ (X0.baloadBytes hx (j := (3 : Int32)) (v := (.int (108 : Int32))) (by rw [e0]; exact Ar_va_240.1) (State.isArrayOf_alike hZ.alike Ar_va_240.2.1) Ar_va_240.2.2 hin240 hat240 (g := (mkF m 17 #[.val (.ref va), .val (.ref vb), .val (.int (3 : Int32))] [(.int (3 : Int32)), (.ref va)])) rfl rfl (hb hby d5_17) t kt)
  clear pre239 hat240 hin240 G_va_240 H_va_240 M_va_240 S_va_240 q_va_240 Ar_va_240
  have pre242 : ∀ t, Steps p.tables e below (s₁.setTop (mkF m 20 #[.val (.ref va), .val (.ref vb), .val (.int (3 : Int32))] [(.int (3 : Int32)), (.ref vb), (.int (108 : Int32))])) t → Steps p.tables e below (s₁.setTop (entryFrame m #[(.ref va), (.ref vb)] 3)) t := fun t kt => by
    refine pre241 _ ?_
    show Steps p.tables e below (s₁.setTop (mkF m 18 #[.val (.ref va), .val (.ref vb), .val (.int (3 : Int32))] [(.int (108 : Int32))])) _
    refine XS.aloadN X0.here hx rfl (hb hby d5_18) rfl rfl ?_
    show Steps p.tables e below (s₁.setTop (mkF m 19 #[.val (.ref va), .val (.ref vb), .val (.int (3 : Int32))] [(.ref vb), (.int (108 : Int32))])) _
    refine XS.iloadN X0.here hx rfl (hb hby d5_19) rfl ?_
    show Steps p.tables e below (s₁.setTop (mkF m 20 #[.val (.ref va), .val (.ref vb), .val (.int (3 : Int32))] [(.int (3 : Int32)), (.ref vb), (.int (108 : Int32))])) _
    exact kt
  have Vo_vb_243 := A_b
  obtain ⟨cl_vb_243, Ar_vb_243, q_vb_243, S_vb_243, M_vb_243, H_vb_243, G_vb_243⟩ := Vo_vb_243
  have hin243 : ¬ ((3 : Int32) < 0 ∨ cl_vb_243.slots.size ≤ ((3 : Int32)).toNatClampNeg) := inb_of S_vb_243 ⟨by decide, by decide⟩
  have hat243 : cl_vb_243.slots[((3 : Int32)).toNatClampNeg]? = some (.int (108 : Int32)) := H_vb_243.at hin243 rfl
  have pre244 : ∀ t, Steps p.tables e below (s₁.setTop (mkF m 21 #[.val (.ref va), .val (.ref vb), .val (.int (3 : Int32))] [(.int (108 : Int32)), (.int (108 : Int32))])) t → Steps p.tables e below (s₁.setTop (entryFrame m #[(.ref va), (.ref vb)] 3)) t := fun t kt => pre242 _ (X0.baloadBytes hx (j := (3 : Int32)) (v := (.int (108 : Int32))) (by rw [e0]; exact Ar_vb_243.1) (State.isArrayOf_alike hZ.alike Ar_vb_243.2.1) Ar_vb_243.2.2 hin243 hat243 (g := (mkF m 20 #[.val (.ref va), .val (.ref vb), .val (.int (3 : Int32))] [(.int (3 : Int32)), (.ref vb), (.int (108 : Int32))])) rfl rfl (hb hby d5_20) t kt)
  clear pre242 hat243 hin243 G_vb_243 H_vb_243 M_vb_243 S_vb_243 q_vb_243 Ar_vb_243
  have pre246 : ∀ t, Steps p.tables e below (s₁.setTop (mkF m 26 #[.val (.ref va), .val (.ref vb), .val (.int (3 : Int32))] [])) t → Steps p.tables e below (s₁.setTop (entryFrame m #[(.ref va), (.ref vb)] 3)) t := fun t kt => by
    refine pre244 _ ?_
    show Steps p.tables e below (s₁.setTop (mkF m 21 #[.val (.ref va), .val (.ref vb), .val (.int (3 : Int32))] [(.int (108 : Int32)), (.int (108 : Int32))])) _
    refine XS.icmpYes X0.here hx rfl (pc0 := 21) (pc' := 26) rfl (hb hby d5_21) rfl (teq (by decide : (108 : Int32) = (108 : Int32))).1 (by decide) (by decide) ?_
    show Steps p.tables e below (s₁.setTop (mkF m 26 #[.val (.ref va), .val (.ref vb), .val (.int (3 : Int32))] [])) _
    exact kt
  have pre247 : ∀ t, Steps p.tables e below (s₁.setTop (mkF m 11 #[.val (.ref va), .val (.ref vb), .val (.int (4 : Int32))] [(.ref va), (.int (4 : Int32))])) t → Steps p.tables e below (s₁.setTop (entryFrame m #[(.ref va), (.ref vb)] 3)) t := fun t kt => by
    refine pre246 _ ?_
    show Steps p.tables e below (s₁.setTop (mkF m 26 #[.val (.ref va), .val (.ref vb), .val (.int (3 : Int32))] [])) _
    refine XS.iinc X0.here hx rfl (hb hby d5_26) rfl (l' := #[.val (.ref va), .val (.ref vb), .val (.int ((3 : Int32) + (1 : Int32)))]) rfl ?_
    show Steps p.tables e below (s₁.setTop (mkF m 29 #[.val (.ref va), .val (.ref vb), .val (.int (4 : Int32))] [])) _
    refine XS.goto X0.here hx rfl (pc0 := 29) (pc' := 9) rfl (hb hby d5_29) (by decide) (by decide) ?_
    show Steps p.tables e below (s₁.setTop (mkF m 9 #[.val (.ref va), .val (.ref vb), .val (.int (4 : Int32))] [])) _
    refine XS.iloadN X0.here hx rfl (hb hby d5_9) rfl ?_
    show Steps p.tables e below (s₁.setTop (mkF m 10 #[.val (.ref va), .val (.ref vb), .val (.int (4 : Int32))] [(.int (4 : Int32))])) _
    refine XS.aloadN X0.here hx rfl (hb hby d5_10) rfl rfl ?_
    show Steps p.tables e below (s₁.setTop (mkF m 11 #[.val (.ref va), .val (.ref vb), .val (.int (4 : Int32))] [(.ref va), (.int (4 : Int32))])) _
    exact kt
  have Vo_va_248 := A_a
  obtain ⟨cl_va_248, Ar_va_248, q_va_248, S_va_248, M_va_248, H_va_248, G_va_248⟩ := Vo_va_248
  have pre248 : ∀ t, Steps p.tables e below (s₁.setTop (mkF m 12 #[.val (.ref va), .val (.ref vb), .val (.int (4 : Int32))] [(.int (17 : Int32)), (.int (4 : Int32))])) t → Steps p.tables e below (s₁.setTop (entryFrame m #[(.ref va), (.ref vb)] 3)) t := fun t kt => by
    refine pre247 _ ?_
    refine X0.arraylength hx (by rw [e0]; exact Ar_va_248.1) (State.isArrayOf_alike hZ.alike Ar_va_248.2.1) (g := (mkF m 11 #[.val (.ref va), .val (.ref vb), .val (.int (4 : Int32))] [(.ref va), (.int (4 : Int32))])) rfl rfl (hb hby d5_11) _ ?_
    rw [len_of S_va_248 M_va_248]
    exact kt
  clear pre247  G_va_248 H_va_248 M_va_248 S_va_248 q_va_248 Ar_va_248
  have pre250 : ∀ t, Steps p.tables e below (s₁.setTop (mkF m 15 #[.val (.ref va), .val (.ref vb), .val (.int (4 : Int32))] [])) t → Steps p.tables e below (s₁.setTop (entryFrame m #[(.ref va), (.ref vb)] 3)) t := fun t kt => by
    refine pre248 _ ?_
    show Steps p.tables e below (s₁.setTop (mkF m 12 #[.val (.ref va), .val (.ref vb), .val (.int (4 : Int32))] [(.int (17 : Int32)), (.int (4 : Int32))])) _
    refine XS.icmpNo X0.here hx rfl (hb hby d5_12) rfl (tlt (by decide : (4 : Int32) < (17 : Int32))).2.1 ?_
    show Steps p.tables e below (s₁.setTop (mkF m 15 #[.val (.ref va), .val (.ref vb), .val (.int (4 : Int32))] [])) _
    exact kt
  have pre251 : ∀ t, Steps p.tables e below (s₁.setTop (mkF m 17 #[.val (.ref va), .val (.ref vb), .val (.int (4 : Int32))] [(.int (4 : Int32)), (.ref va)])) t → Steps p.tables e below (s₁.setTop (entryFrame m #[(.ref va), (.ref vb)] 3)) t := fun t kt => by
    refine pre250 _ ?_
    show Steps p.tables e below (s₁.setTop (mkF m 15 #[.val (.ref va), .val (.ref vb), .val (.int (4 : Int32))] [])) _
    refine XS.aloadN X0.here hx rfl (hb hby d5_15) rfl rfl ?_
    show Steps p.tables e below (s₁.setTop (mkF m 16 #[.val (.ref va), .val (.ref vb), .val (.int (4 : Int32))] [(.ref va)])) _
    refine XS.iloadN X0.here hx rfl (hb hby d5_16) rfl ?_
    show Steps p.tables e below (s₁.setTop (mkF m 17 #[.val (.ref va), .val (.ref vb), .val (.int (4 : Int32))] [(.int (4 : Int32)), (.ref va)])) _
    exact kt
  have Vo_va_252 := A_a
  obtain ⟨cl_va_252, Ar_va_252, q_va_252, S_va_252, M_va_252, H_va_252, G_va_252⟩ := Vo_va_252
  have hin252 : ¬ ((4 : Int32) < 0 ∨ cl_va_252.slots.size ≤ ((4 : Int32)).toNatClampNeg) := inb_of S_va_252 ⟨by decide, by decide⟩
  have hat252 : cl_va_252.slots[((4 : Int32)).toNatClampNeg]? = some (.int (121 : Int32)) := H_va_252.at hin252 rfl
  have pre253 : ∀ t, Steps p.tables e below (s₁.setTop (mkF m 18 #[.val (.ref va), .val (.ref vb), .val (.int (4 : Int32))] [(.int (121 : Int32))])) t → Steps p.tables e below (s₁.setTop (entryFrame m #[(.ref va), (.ref vb)] 3)) t := fun t kt => pre251 _ (X0.baloadBytes hx (j := (4 : Int32)) (v := (.int (121 : Int32))) (by rw [e0]; exact Ar_va_252.1) (State.isArrayOf_alike hZ.alike Ar_va_252.2.1) Ar_va_252.2.2 hin252 hat252 (g := (mkF m 17 #[.val (.ref va), .val (.ref vb), .val (.int (4 : Int32))] [(.int (4 : Int32)), (.ref va)])) rfl rfl (hb hby d5_17) t kt)
  clear pre251 hat252 hin252 G_va_252 H_va_252 M_va_252 S_va_252 q_va_252 Ar_va_252
  have pre254 : ∀ t, Steps p.tables e below (s₁.setTop (mkF m 20 #[.val (.ref va), .val (.ref vb), .val (.int (4 : Int32))] [(.int (4 : Int32)), (.ref vb), (.int (121 : Int32))])) t → Steps p.tables e below (s₁.setTop (entryFrame m #[(.ref va), (.ref vb)] 3)) t := fun t kt => by
    refine pre253 _ ?_
    show Steps p.tables e below (s₁.setTop (mkF m 18 #[.val (.ref va), .val (.ref vb), .val (.int (4 : Int32))] [(.int (121 : Int32))])) _
    refine XS.aloadN X0.here hx rfl (hb hby d5_18) rfl rfl ?_
    show Steps p.tables e below (s₁.setTop (mkF m 19 #[.val (.ref va), .val (.ref vb), .val (.int (4 : Int32))] [(.ref vb), (.int (121 : Int32))])) _
    refine XS.iloadN X0.here hx rfl (hb hby d5_19) rfl ?_
    show Steps p.tables e below (s₁.setTop (mkF m 20 #[.val (.ref va), .val (.ref vb), .val (.int (4 : Int32))] [(.int (4 : Int32)), (.ref vb), (.int (121 : Int32))])) _
    exact kt
  have Vo_vb_255 := A_b
  obtain ⟨cl_vb_255, Ar_vb_255, q_vb_255, S_vb_255, M_vb_255, H_vb_255, G_vb_255⟩ := Vo_vb_255
  have hin255 : ¬ ((4 : Int32) < 0 ∨ cl_vb_255.slots.size ≤ ((4 : Int32)).toNatClampNeg) := inb_of S_vb_255 ⟨by decide, by decide⟩
  have hat255 : cl_vb_255.slots[((4 : Int32)).toNatClampNeg]? = some (.int (121 : Int32)) := H_vb_255.at hin255 rfl
  have pre256 : ∀ t, Steps p.tables e below (s₁.setTop (mkF m 21 #[.val (.ref va), .val (.ref vb), .val (.int (4 : Int32))] [(.int (121 : Int32)), (.int (121 : Int32))])) t → Steps p.tables e below (s₁.setTop (entryFrame m #[(.ref va), (.ref vb)] 3)) t := fun t kt => pre254 _ (X0.baloadBytes hx (j := (4 : Int32)) (v := (.int (121 : Int32))) (by rw [e0]; exact Ar_vb_255.1) (State.isArrayOf_alike hZ.alike Ar_vb_255.2.1) Ar_vb_255.2.2 hin255 hat255 (g := (mkF m 20 #[.val (.ref va), .val (.ref vb), .val (.int (4 : Int32))] [(.int (4 : Int32)), (.ref vb), (.int (121 : Int32))])) rfl rfl (hb hby d5_20) t kt)
  clear pre254 hat255 hin255 G_vb_255 H_vb_255 M_vb_255 S_vb_255 q_vb_255 Ar_vb_255
  have pre258 : ∀ t, Steps p.tables e below (s₁.setTop (mkF m 26 #[.val (.ref va), .val (.ref vb), .val (.int (4 : Int32))] [])) t → Steps p.tables e below (s₁.setTop (entryFrame m #[(.ref va), (.ref vb)] 3)) t := fun t kt => by
    refine pre256 _ ?_
    show Steps p.tables e below (s₁.setTop (mkF m 21 #[.val (.ref va), .val (.ref vb), .val (.int (4 : Int32))] [(.int (121 : Int32)), (.int (121 : Int32))])) _
    refine XS.icmpYes X0.here hx rfl (pc0 := 21) (pc' := 26) rfl (hb hby d5_21) rfl (teq (by decide : (121 : Int32) = (121 : Int32))).1 (by decide) (by decide) ?_
    show Steps p.tables e below (s₁.setTop (mkF m 26 #[.val (.ref va), .val (.ref vb), .val (.int (4 : Int32))] [])) _
    exact kt
  have pre259 : ∀ t, Steps p.tables e below (s₁.setTop (mkF m 11 #[.val (.ref va), .val (.ref vb), .val (.int (5 : Int32))] [(.ref va), (.int (5 : Int32))])) t → Steps p.tables e below (s₁.setTop (entryFrame m #[(.ref va), (.ref vb)] 3)) t := fun t kt => by
    refine pre258 _ ?_
    show Steps p.tables e below (s₁.setTop (mkF m 26 #[.val (.ref va), .val (.ref vb), .val (.int (4 : Int32))] [])) _
    refine XS.iinc X0.here hx rfl (hb hby d5_26) rfl (l' := #[.val (.ref va), .val (.ref vb), .val (.int ((4 : Int32) + (1 : Int32)))]) rfl ?_
    show Steps p.tables e below (s₁.setTop (mkF m 29 #[.val (.ref va), .val (.ref vb), .val (.int (5 : Int32))] [])) _
    refine XS.goto X0.here hx rfl (pc0 := 29) (pc' := 9) rfl (hb hby d5_29) (by decide) (by decide) ?_
    show Steps p.tables e below (s₁.setTop (mkF m 9 #[.val (.ref va), .val (.ref vb), .val (.int (5 : Int32))] [])) _
    refine XS.iloadN X0.here hx rfl (hb hby d5_9) rfl ?_
    show Steps p.tables e below (s₁.setTop (mkF m 10 #[.val (.ref va), .val (.ref vb), .val (.int (5 : Int32))] [(.int (5 : Int32))])) _
    refine XS.aloadN X0.here hx rfl (hb hby d5_10) rfl rfl ?_
    show Steps p.tables e below (s₁.setTop (mkF m 11 #[.val (.ref va), .val (.ref vb), .val (.int (5 : Int32))] [(.ref va), (.int (5 : Int32))])) _
    exact kt
  have Vo_va_260 := A_a
  obtain ⟨cl_va_260, Ar_va_260, q_va_260, S_va_260, M_va_260, H_va_260, G_va_260⟩ := Vo_va_260
  have pre260 : ∀ t, Steps p.tables e below (s₁.setTop (mkF m 12 #[.val (.ref va), .val (.ref vb), .val (.int (5 : Int32))] [(.int (17 : Int32)), (.int (5 : Int32))])) t → Steps p.tables e below (s₁.setTop (entryFrame m #[(.ref va), (.ref vb)] 3)) t := fun t kt => by
    refine pre259 _ ?_
    refine X0.arraylength hx (by rw [e0]; exact Ar_va_260.1) (State.isArrayOf_alike hZ.alike Ar_va_260.2.1) (g := (mkF m 11 #[.val (.ref va), .val (.ref vb), .val (.int (5 : Int32))] [(.ref va), (.int (5 : Int32))])) rfl rfl (hb hby d5_11) _ ?_
    rw [len_of S_va_260 M_va_260]
    exact kt
  clear pre259  G_va_260 H_va_260 M_va_260 S_va_260 q_va_260 Ar_va_260
  have pre262 : ∀ t, Steps p.tables e below (s₁.setTop (mkF m 15 #[.val (.ref va), .val (.ref vb), .val (.int (5 : Int32))] [])) t → Steps p.tables e below (s₁.setTop (entryFrame m #[(.ref va), (.ref vb)] 3)) t := fun t kt => by
    refine pre260 _ ?_
    show Steps p.tables e below (s₁.setTop (mkF m 12 #[.val (.ref va), .val (.ref vb), .val (.int (5 : Int32))] [(.int (17 : Int32)), (.int (5 : Int32))])) _
    refine XS.icmpNo X0.here hx rfl (hb hby d5_12) rfl (tlt (by decide : (5 : Int32) < (17 : Int32))).2.1 ?_
    show Steps p.tables e below (s₁.setTop (mkF m 15 #[.val (.ref va), .val (.ref vb), .val (.int (5 : Int32))] [])) _
    exact kt
  have pre263 : ∀ t, Steps p.tables e below (s₁.setTop (mkF m 17 #[.val (.ref va), .val (.ref vb), .val (.int (5 : Int32))] [(.int (5 : Int32)), (.ref va)])) t → Steps p.tables e below (s₁.setTop (entryFrame m #[(.ref va), (.ref vb)] 3)) t := fun t kt => by
    refine pre262 _ ?_
    show Steps p.tables e below (s₁.setTop (mkF m 15 #[.val (.ref va), .val (.ref vb), .val (.int (5 : Int32))] [])) _
    refine XS.aloadN X0.here hx rfl (hb hby d5_15) rfl rfl ?_
    show Steps p.tables e below (s₁.setTop (mkF m 16 #[.val (.ref va), .val (.ref vb), .val (.int (5 : Int32))] [(.ref va)])) _
    refine XS.iloadN X0.here hx rfl (hb hby d5_16) rfl ?_
    show Steps p.tables e below (s₁.setTop (mkF m 17 #[.val (.ref va), .val (.ref vb), .val (.int (5 : Int32))] [(.int (5 : Int32)), (.ref va)])) _
    exact kt
  have Vo_va_264 := A_a
  obtain ⟨cl_va_264, Ar_va_264, q_va_264, S_va_264, M_va_264, H_va_264, G_va_264⟩ := Vo_va_264
  have hin264 : ¬ ((5 : Int32) < 0 ∨ cl_va_264.slots.size ≤ ((5 : Int32)).toNatClampNeg) := inb_of S_va_264 ⟨by decide, by decide⟩
  have hat264 : cl_va_264.slots[((5 : Int32)).toNatClampNeg]? = some (.int (32 : Int32)) := H_va_264.at hin264 rfl
  have pre265 : ∀ t, Steps p.tables e below (s₁.setTop (mkF m 18 #[.val (.ref va), .val (.ref vb), .val (.int (5 : Int32))] [(.int (32 : Int32))])) t → Steps p.tables e below (s₁.setTop (entryFrame m #[(.ref va), (.ref vb)] 3)) t := fun t kt => pre263 _ (X0.baloadBytes hx (j := (5 : Int32)) (v := (.int (32 : Int32))) (by rw [e0]; exact Ar_va_264.1) (State.isArrayOf_alike hZ.alike Ar_va_264.2.1) Ar_va_264.2.2 hin264 hat264 (g := (mkF m 17 #[.val (.ref va), .val (.ref vb), .val (.int (5 : Int32))] [(.int (5 : Int32)), (.ref va)])) rfl rfl (hb hby d5_17) t kt)
  clear pre263 hat264 hin264 G_va_264 H_va_264 M_va_264 S_va_264 q_va_264 Ar_va_264
  have pre266 : ∀ t, Steps p.tables e below (s₁.setTop (mkF m 20 #[.val (.ref va), .val (.ref vb), .val (.int (5 : Int32))] [(.int (5 : Int32)), (.ref vb), (.int (32 : Int32))])) t → Steps p.tables e below (s₁.setTop (entryFrame m #[(.ref va), (.ref vb)] 3)) t := fun t kt => by
    refine pre265 _ ?_
    show Steps p.tables e below (s₁.setTop (mkF m 18 #[.val (.ref va), .val (.ref vb), .val (.int (5 : Int32))] [(.int (32 : Int32))])) _
    refine XS.aloadN X0.here hx rfl (hb hby d5_18) rfl rfl ?_
    show Steps p.tables e below (s₁.setTop (mkF m 19 #[.val (.ref va), .val (.ref vb), .val (.int (5 : Int32))] [(.ref vb), (.int (32 : Int32))])) _
    refine XS.iloadN X0.here hx rfl (hb hby d5_19) rfl ?_
    show Steps p.tables e below (s₁.setTop (mkF m 20 #[.val (.ref va), .val (.ref vb), .val (.int (5 : Int32))] [(.int (5 : Int32)), (.ref vb), (.int (32 : Int32))])) _
    exact kt
  have Vo_vb_267 := A_b
  obtain ⟨cl_vb_267, Ar_vb_267, q_vb_267, S_vb_267, M_vb_267, H_vb_267, G_vb_267⟩ := Vo_vb_267
  have hin267 : ¬ ((5 : Int32) < 0 ∨ cl_vb_267.slots.size ≤ ((5 : Int32)).toNatClampNeg) := inb_of S_vb_267 ⟨by decide, by decide⟩
  have hat267 : cl_vb_267.slots[((5 : Int32)).toNatClampNeg]? = some (.int (32 : Int32)) := H_vb_267.at hin267 rfl
  have pre268 : ∀ t, Steps p.tables e below (s₁.setTop (mkF m 21 #[.val (.ref va), .val (.ref vb), .val (.int (5 : Int32))] [(.int (32 : Int32)), (.int (32 : Int32))])) t → Steps p.tables e below (s₁.setTop (entryFrame m #[(.ref va), (.ref vb)] 3)) t := fun t kt => pre266 _ (X0.baloadBytes hx (j := (5 : Int32)) (v := (.int (32 : Int32))) (by rw [e0]; exact Ar_vb_267.1) (State.isArrayOf_alike hZ.alike Ar_vb_267.2.1) Ar_vb_267.2.2 hin267 hat267 (g := (mkF m 20 #[.val (.ref va), .val (.ref vb), .val (.int (5 : Int32))] [(.int (5 : Int32)), (.ref vb), (.int (32 : Int32))])) rfl rfl (hb hby d5_20) t kt)
  clear pre266 hat267 hin267 G_vb_267 H_vb_267 M_vb_267 S_vb_267 q_vb_267 Ar_vb_267
  have pre270 : ∀ t, Steps p.tables e below (s₁.setTop (mkF m 26 #[.val (.ref va), .val (.ref vb), .val (.int (5 : Int32))] [])) t → Steps p.tables e below (s₁.setTop (entryFrame m #[(.ref va), (.ref vb)] 3)) t := fun t kt => by
    refine pre268 _ ?_
    show Steps p.tables e below (s₁.setTop (mkF m 21 #[.val (.ref va), .val (.ref vb), .val (.int (5 : Int32))] [(.int (32 : Int32)), (.int (32 : Int32))])) _
    refine XS.icmpYes X0.here hx rfl (pc0 := 21) (pc' := 26) rfl (hb hby d5_21) rfl (teq (by decide : (32 : Int32) = (32 : Int32))).1 (by decide) (by decide) ?_
    show Steps p.tables e below (s₁.setTop (mkF m 26 #[.val (.ref va), .val (.ref vb), .val (.int (5 : Int32))] [])) _
    exact kt
  have pre271 : ∀ t, Steps p.tables e below (s₁.setTop (mkF m 11 #[.val (.ref va), .val (.ref vb), .val (.int (6 : Int32))] [(.ref va), (.int (6 : Int32))])) t → Steps p.tables e below (s₁.setTop (entryFrame m #[(.ref va), (.ref vb)] 3)) t := fun t kt => by
    refine pre270 _ ?_
    show Steps p.tables e below (s₁.setTop (mkF m 26 #[.val (.ref va), .val (.ref vb), .val (.int (5 : Int32))] [])) _
    refine XS.iinc X0.here hx rfl (hb hby d5_26) rfl (l' := #[.val (.ref va), .val (.ref vb), .val (.int ((5 : Int32) + (1 : Int32)))]) rfl ?_
    show Steps p.tables e below (s₁.setTop (mkF m 29 #[.val (.ref va), .val (.ref vb), .val (.int (6 : Int32))] [])) _
    refine XS.goto X0.here hx rfl (pc0 := 29) (pc' := 9) rfl (hb hby d5_29) (by decide) (by decide) ?_
    show Steps p.tables e below (s₁.setTop (mkF m 9 #[.val (.ref va), .val (.ref vb), .val (.int (6 : Int32))] [])) _
    refine XS.iloadN X0.here hx rfl (hb hby d5_9) rfl ?_
    show Steps p.tables e below (s₁.setTop (mkF m 10 #[.val (.ref va), .val (.ref vb), .val (.int (6 : Int32))] [(.int (6 : Int32))])) _
    refine XS.aloadN X0.here hx rfl (hb hby d5_10) rfl rfl ?_
    show Steps p.tables e below (s₁.setTop (mkF m 11 #[.val (.ref va), .val (.ref vb), .val (.int (6 : Int32))] [(.ref va), (.int (6 : Int32))])) _
    exact kt
  have Vo_va_272 := A_a
  obtain ⟨cl_va_272, Ar_va_272, q_va_272, S_va_272, M_va_272, H_va_272, G_va_272⟩ := Vo_va_272
  have pre272 : ∀ t, Steps p.tables e below (s₁.setTop (mkF m 12 #[.val (.ref va), .val (.ref vb), .val (.int (6 : Int32))] [(.int (17 : Int32)), (.int (6 : Int32))])) t → Steps p.tables e below (s₁.setTop (entryFrame m #[(.ref va), (.ref vb)] 3)) t := fun t kt => by
    refine pre271 _ ?_
    refine X0.arraylength hx (by rw [e0]; exact Ar_va_272.1) (State.isArrayOf_alike hZ.alike Ar_va_272.2.1) (g := (mkF m 11 #[.val (.ref va), .val (.ref vb), .val (.int (6 : Int32))] [(.ref va), (.int (6 : Int32))])) rfl rfl (hb hby d5_11) _ ?_
    rw [len_of S_va_272 M_va_272]
    exact kt
  clear pre271  G_va_272 H_va_272 M_va_272 S_va_272 q_va_272 Ar_va_272
  have pre274 : ∀ t, Steps p.tables e below (s₁.setTop (mkF m 15 #[.val (.ref va), .val (.ref vb), .val (.int (6 : Int32))] [])) t → Steps p.tables e below (s₁.setTop (entryFrame m #[(.ref va), (.ref vb)] 3)) t := fun t kt => by
    refine pre272 _ ?_
    show Steps p.tables e below (s₁.setTop (mkF m 12 #[.val (.ref va), .val (.ref vb), .val (.int (6 : Int32))] [(.int (17 : Int32)), (.int (6 : Int32))])) _
    refine XS.icmpNo X0.here hx rfl (hb hby d5_12) rfl (tlt (by decide : (6 : Int32) < (17 : Int32))).2.1 ?_
    show Steps p.tables e below (s₁.setTop (mkF m 15 #[.val (.ref va), .val (.ref vb), .val (.int (6 : Int32))] [])) _
    exact kt
  have pre275 : ∀ t, Steps p.tables e below (s₁.setTop (mkF m 17 #[.val (.ref va), .val (.ref vb), .val (.int (6 : Int32))] [(.int (6 : Int32)), (.ref va)])) t → Steps p.tables e below (s₁.setTop (entryFrame m #[(.ref va), (.ref vb)] 3)) t := fun t kt => by
    refine pre274 _ ?_
    show Steps p.tables e below (s₁.setTop (mkF m 15 #[.val (.ref va), .val (.ref vb), .val (.int (6 : Int32))] [])) _
    refine XS.aloadN X0.here hx rfl (hb hby d5_15) rfl rfl ?_
    show Steps p.tables e below (s₁.setTop (mkF m 16 #[.val (.ref va), .val (.ref vb), .val (.int (6 : Int32))] [(.ref va)])) _
    refine XS.iloadN X0.here hx rfl (hb hby d5_16) rfl ?_
    show Steps p.tables e below (s₁.setTop (mkF m 17 #[.val (.ref va), .val (.ref vb), .val (.int (6 : Int32))] [(.int (6 : Int32)), (.ref va)])) _
    exact kt
  have Vo_va_276 := A_a
  obtain ⟨cl_va_276, Ar_va_276, q_va_276, S_va_276, M_va_276, H_va_276, G_va_276⟩ := Vo_va_276
  have hin276 : ¬ ((6 : Int32) < 0 ∨ cl_va_276.slots.size ≤ ((6 : Int32)).toNatClampNeg) := inb_of S_va_276 ⟨by decide, by decide⟩
  have hat276 : cl_va_276.slots[((6 : Int32)).toNatClampNeg]? = some (.int (80 : Int32)) := H_va_276.at hin276 rfl
  have pre277 : ∀ t, Steps p.tables e below (s₁.setTop (mkF m 18 #[.val (.ref va), .val (.ref vb), .val (.int (6 : Int32))] [(.int (80 : Int32))])) t → Steps p.tables e below (s₁.setTop (entryFrame m #[(.ref va), (.ref vb)] 3)) t := fun t kt => pre275 _ (X0.baloadBytes hx (j := (6 : Int32)) (v := (.int (80 : Int32))) (by rw [e0]; exact Ar_va_276.1) (State.isArrayOf_alike hZ.alike Ar_va_276.2.1) Ar_va_276.2.2 hin276 hat276 (g := (mkF m 17 #[.val (.ref va), .val (.ref vb), .val (.int (6 : Int32))] [(.int (6 : Int32)), (.ref va)])) rfl rfl (hb hby d5_17) t kt)
  clear pre275 hat276 hin276 G_va_276 H_va_276 M_va_276 S_va_276 q_va_276 Ar_va_276
  have pre278 : ∀ t, Steps p.tables e below (s₁.setTop (mkF m 20 #[.val (.ref va), .val (.ref vb), .val (.int (6 : Int32))] [(.int (6 : Int32)), (.ref vb), (.int (80 : Int32))])) t → Steps p.tables e below (s₁.setTop (entryFrame m #[(.ref va), (.ref vb)] 3)) t := fun t kt => by
    refine pre277 _ ?_
    show Steps p.tables e below (s₁.setTop (mkF m 18 #[.val (.ref va), .val (.ref vb), .val (.int (6 : Int32))] [(.int (80 : Int32))])) _
    refine XS.aloadN X0.here hx rfl (hb hby d5_18) rfl rfl ?_
    show Steps p.tables e below (s₁.setTop (mkF m 19 #[.val (.ref va), .val (.ref vb), .val (.int (6 : Int32))] [(.ref vb), (.int (80 : Int32))])) _
    refine XS.iloadN X0.here hx rfl (hb hby d5_19) rfl ?_
    show Steps p.tables e below (s₁.setTop (mkF m 20 #[.val (.ref va), .val (.ref vb), .val (.int (6 : Int32))] [(.int (6 : Int32)), (.ref vb), (.int (80 : Int32))])) _
    exact kt
  have Vo_vb_279 := A_b
  obtain ⟨cl_vb_279, Ar_vb_279, q_vb_279, S_vb_279, M_vb_279, H_vb_279, G_vb_279⟩ := Vo_vb_279
  have hin279 : ¬ ((6 : Int32) < 0 ∨ cl_vb_279.slots.size ≤ ((6 : Int32)).toNatClampNeg) := inb_of S_vb_279 ⟨by decide, by decide⟩
  have hat279 : cl_vb_279.slots[((6 : Int32)).toNatClampNeg]? = some (.int (80 : Int32)) := H_vb_279.at hin279 rfl
  have pre280 : ∀ t, Steps p.tables e below (s₁.setTop (mkF m 21 #[.val (.ref va), .val (.ref vb), .val (.int (6 : Int32))] [(.int (80 : Int32)), (.int (80 : Int32))])) t → Steps p.tables e below (s₁.setTop (entryFrame m #[(.ref va), (.ref vb)] 3)) t := fun t kt => pre278 _ (X0.baloadBytes hx (j := (6 : Int32)) (v := (.int (80 : Int32))) (by rw [e0]; exact Ar_vb_279.1) (State.isArrayOf_alike hZ.alike Ar_vb_279.2.1) Ar_vb_279.2.2 hin279 hat279 (g := (mkF m 20 #[.val (.ref va), .val (.ref vb), .val (.int (6 : Int32))] [(.int (6 : Int32)), (.ref vb), (.int (80 : Int32))])) rfl rfl (hb hby d5_20) t kt)
  clear pre278 hat279 hin279 G_vb_279 H_vb_279 M_vb_279 S_vb_279 q_vb_279 Ar_vb_279
  have pre282 : ∀ t, Steps p.tables e below (s₁.setTop (mkF m 26 #[.val (.ref va), .val (.ref vb), .val (.int (6 : Int32))] [])) t → Steps p.tables e below (s₁.setTop (entryFrame m #[(.ref va), (.ref vb)] 3)) t := fun t kt => by
    refine pre280 _ ?_
    show Steps p.tables e below (s₁.setTop (mkF m 21 #[.val (.ref va), .val (.ref vb), .val (.int (6 : Int32))] [(.int (80 : Int32)), (.int (80 : Int32))])) _
    refine XS.icmpYes X0.here hx rfl (pc0 := 21) (pc' := 26) rfl (hb hby d5_21) rfl (teq (by decide : (80 : Int32) = (80 : Int32))).1 (by decide) (by decide) ?_
    show Steps p.tables e below (s₁.setTop (mkF m 26 #[.val (.ref va), .val (.ref vb), .val (.int (6 : Int32))] [])) _
    exact kt
  have pre283 : ∀ t, Steps p.tables e below (s₁.setTop (mkF m 11 #[.val (.ref va), .val (.ref vb), .val (.int (7 : Int32))] [(.ref va), (.int (7 : Int32))])) t → Steps p.tables e below (s₁.setTop (entryFrame m #[(.ref va), (.ref vb)] 3)) t := fun t kt => by
    refine pre282 _ ?_
    show Steps p.tables e below (s₁.setTop (mkF m 26 #[.val (.ref va), .val (.ref vb), .val (.int (6 : Int32))] [])) _
    refine XS.iinc X0.here hx rfl (hb hby d5_26) rfl (l' := #[.val (.ref va), .val (.ref vb), .val (.int ((6 : Int32) + (1 : Int32)))]) rfl ?_
    show Steps p.tables e below (s₁.setTop (mkF m 29 #[.val (.ref va), .val (.ref vb), .val (.int (7 : Int32))] [])) _
    refine XS.goto X0.here hx rfl (pc0 := 29) (pc' := 9) rfl (hb hby d5_29) (by decide) (by decide) ?_
    show Steps p.tables e below (s₁.setTop (mkF m 9 #[.val (.ref va), .val (.ref vb), .val (.int (7 : Int32))] [])) _
    refine XS.iloadN X0.here hx rfl (hb hby d5_9) rfl ?_
    show Steps p.tables e below (s₁.setTop (mkF m 10 #[.val (.ref va), .val (.ref vb), .val (.int (7 : Int32))] [(.int (7 : Int32))])) _
    refine XS.aloadN X0.here hx rfl (hb hby d5_10) rfl rfl ?_
    show Steps p.tables e below (s₁.setTop (mkF m 11 #[.val (.ref va), .val (.ref vb), .val (.int (7 : Int32))] [(.ref va), (.int (7 : Int32))])) _
    exact kt
  have Vo_va_284 := A_a
  obtain ⟨cl_va_284, Ar_va_284, q_va_284, S_va_284, M_va_284, H_va_284, G_va_284⟩ := Vo_va_284
  have pre284 : ∀ t, Steps p.tables e below (s₁.setTop (mkF m 12 #[.val (.ref va), .val (.ref vb), .val (.int (7 : Int32))] [(.int (17 : Int32)), (.int (7 : Int32))])) t → Steps p.tables e below (s₁.setTop (entryFrame m #[(.ref va), (.ref vb)] 3)) t := fun t kt => by
    refine pre283 _ ?_
    refine X0.arraylength hx (by rw [e0]; exact Ar_va_284.1) (State.isArrayOf_alike hZ.alike Ar_va_284.2.1) (g := (mkF m 11 #[.val (.ref va), .val (.ref vb), .val (.int (7 : Int32))] [(.ref va), (.int (7 : Int32))])) rfl rfl (hb hby d5_11) _ ?_
    rw [len_of S_va_284 M_va_284]
    exact kt
  clear pre283  G_va_284 H_va_284 M_va_284 S_va_284 q_va_284 Ar_va_284
  have pre286 : ∀ t, Steps p.tables e below (s₁.setTop (mkF m 15 #[.val (.ref va), .val (.ref vb), .val (.int (7 : Int32))] [])) t → Steps p.tables e below (s₁.setTop (entryFrame m #[(.ref va), (.ref vb)] 3)) t := fun t kt => by
    refine pre284 _ ?_
    show Steps p.tables e below (s₁.setTop (mkF m 12 #[.val (.ref va), .val (.ref vb), .val (.int (7 : Int32))] [(.int (17 : Int32)), (.int (7 : Int32))])) _
    refine XS.icmpNo X0.here hx rfl (hb hby d5_12) rfl (tlt (by decide : (7 : Int32) < (17 : Int32))).2.1 ?_
    show Steps p.tables e below (s₁.setTop (mkF m 15 #[.val (.ref va), .val (.ref vb), .val (.int (7 : Int32))] [])) _
    exact kt
  have pre287 : ∀ t, Steps p.tables e below (s₁.setTop (mkF m 17 #[.val (.ref va), .val (.ref vb), .val (.int (7 : Int32))] [(.int (7 : Int32)), (.ref va)])) t → Steps p.tables e below (s₁.setTop (entryFrame m #[(.ref va), (.ref vb)] 3)) t := fun t kt => by
    refine pre286 _ ?_
    show Steps p.tables e below (s₁.setTop (mkF m 15 #[.val (.ref va), .val (.ref vb), .val (.int (7 : Int32))] [])) _
    refine XS.aloadN X0.here hx rfl (hb hby d5_15) rfl rfl ?_
    show Steps p.tables e below (s₁.setTop (mkF m 16 #[.val (.ref va), .val (.ref vb), .val (.int (7 : Int32))] [(.ref va)])) _
    refine XS.iloadN X0.here hx rfl (hb hby d5_16) rfl ?_
    show Steps p.tables e below (s₁.setTop (mkF m 17 #[.val (.ref va), .val (.ref vb), .val (.int (7 : Int32))] [(.int (7 : Int32)), (.ref va)])) _
    exact kt
  have Vo_va_288 := A_a
  obtain ⟨cl_va_288, Ar_va_288, q_va_288, S_va_288, M_va_288, H_va_288, G_va_288⟩ := Vo_va_288
  have hin288 : ¬ ((7 : Int32) < 0 ∨ cl_va_288.slots.size ≤ ((7 : Int32)).toNatClampNeg) := inb_of S_va_288 ⟨by decide, by decide⟩
  have hat288 : cl_va_288.slots[((7 : Int32)).toNatClampNeg]? = some (.int (38 : Int32)) := H_va_288.at hin288 rfl
  have pre289 : ∀ t, Steps p.tables e below (s₁.setTop (mkF m 18 #[.val (.ref va), .val (.ref vb), .val (.int (7 : Int32))] [(.int (38 : Int32))])) t → Steps p.tables e below (s₁.setTop (entryFrame m #[(.ref va), (.ref vb)] 3)) t := fun t kt => pre287 _ (X0.baloadBytes hx (j := (7 : Int32)) (v := (.int (38 : Int32))) (by rw [e0]; exact Ar_va_288.1) (State.isArrayOf_alike hZ.alike Ar_va_288.2.1) Ar_va_288.2.2 hin288 hat288 (g := (mkF m 17 #[.val (.ref va), .val (.ref vb), .val (.int (7 : Int32))] [(.int (7 : Int32)), (.ref va)])) rfl rfl (hb hby d5_17) t kt)
  clear pre287 hat288 hin288 G_va_288 H_va_288 M_va_288 S_va_288 q_va_288 Ar_va_288
  have pre290 : ∀ t, Steps p.tables e below (s₁.setTop (mkF m 20 #[.val (.ref va), .val (.ref vb), .val (.int (7 : Int32))] [(.int (7 : Int32)), (.ref vb), (.int (38 : Int32))])) t → Steps p.tables e below (s₁.setTop (entryFrame m #[(.ref va), (.ref vb)] 3)) t := fun t kt => by
    refine pre289 _ ?_
    show Steps p.tables e below (s₁.setTop (mkF m 18 #[.val (.ref va), .val (.ref vb), .val (.int (7 : Int32))] [(.int (38 : Int32))])) _
    refine XS.aloadN X0.here hx rfl (hb hby d5_18) rfl rfl ?_
    show Steps p.tables e below (s₁.setTop (mkF m 19 #[.val (.ref va), .val (.ref vb), .val (.int (7 : Int32))] [(.ref vb), (.int (38 : Int32))])) _
    refine XS.iloadN X0.here hx rfl (hb hby d5_19) rfl ?_
    show Steps p.tables e below (s₁.setTop (mkF m 20 #[.val (.ref va), .val (.ref vb), .val (.int (7 : Int32))] [(.int (7 : Int32)), (.ref vb), (.int (38 : Int32))])) _
    exact kt
  have Vo_vb_291 := A_b
  obtain ⟨cl_vb_291, Ar_vb_291, q_vb_291, S_vb_291, M_vb_291, H_vb_291, G_vb_291⟩ := Vo_vb_291
  have hin291 : ¬ ((7 : Int32) < 0 ∨ cl_vb_291.slots.size ≤ ((7 : Int32)).toNatClampNeg) := inb_of S_vb_291 ⟨by decide, by decide⟩
  have hat291 : cl_vb_291.slots[((7 : Int32)).toNatClampNeg]? = some (.int (38 : Int32)) := H_vb_291.at hin291 rfl
  have pre292 : ∀ t, Steps p.tables e below (s₁.setTop (mkF m 21 #[.val (.ref va), .val (.ref vb), .val (.int (7 : Int32))] [(.int (38 : Int32)), (.int (38 : Int32))])) t → Steps p.tables e below (s₁.setTop (entryFrame m #[(.ref va), (.ref vb)] 3)) t := fun t kt => pre290 _ (X0.baloadBytes hx (j := (7 : Int32)) (v := (.int (38 : Int32))) (by rw [e0]; exact Ar_vb_291.1) (State.isArrayOf_alike hZ.alike Ar_vb_291.2.1) Ar_vb_291.2.2 hin291 hat291 (g := (mkF m 20 #[.val (.ref va), .val (.ref vb), .val (.int (7 : Int32))] [(.int (7 : Int32)), (.ref vb), (.int (38 : Int32))])) rfl rfl (hb hby d5_20) t kt)
  clear pre290 hat291 hin291 G_vb_291 H_vb_291 M_vb_291 S_vb_291 q_vb_291 Ar_vb_291
  have pre294 : ∀ t, Steps p.tables e below (s₁.setTop (mkF m 26 #[.val (.ref va), .val (.ref vb), .val (.int (7 : Int32))] [])) t → Steps p.tables e below (s₁.setTop (entryFrame m #[(.ref va), (.ref vb)] 3)) t := fun t kt => by
    refine pre292 _ ?_
    show Steps p.tables e below (s₁.setTop (mkF m 21 #[.val (.ref va), .val (.ref vb), .val (.int (7 : Int32))] [(.int (38 : Int32)), (.int (38 : Int32))])) _
    refine XS.icmpYes X0.here hx rfl (pc0 := 21) (pc' := 26) rfl (hb hby d5_21) rfl (teq (by decide : (38 : Int32) = (38 : Int32))).1 (by decide) (by decide) ?_
    show Steps p.tables e below (s₁.setTop (mkF m 26 #[.val (.ref va), .val (.ref vb), .val (.int (7 : Int32))] [])) _
    exact kt
  have pre295 : ∀ t, Steps p.tables e below (s₁.setTop (mkF m 11 #[.val (.ref va), .val (.ref vb), .val (.int (8 : Int32))] [(.ref va), (.int (8 : Int32))])) t → Steps p.tables e below (s₁.setTop (entryFrame m #[(.ref va), (.ref vb)] 3)) t := fun t kt => by
    refine pre294 _ ?_
    show Steps p.tables e below (s₁.setTop (mkF m 26 #[.val (.ref va), .val (.ref vb), .val (.int (7 : Int32))] [])) _
    refine XS.iinc X0.here hx rfl (hb hby d5_26) rfl (l' := #[.val (.ref va), .val (.ref vb), .val (.int ((7 : Int32) + (1 : Int32)))]) rfl ?_
    show Steps p.tables e below (s₁.setTop (mkF m 29 #[.val (.ref va), .val (.ref vb), .val (.int (8 : Int32))] [])) _
    refine XS.goto X0.here hx rfl (pc0 := 29) (pc' := 9) rfl (hb hby d5_29) (by decide) (by decide) ?_
    show Steps p.tables e below (s₁.setTop (mkF m 9 #[.val (.ref va), .val (.ref vb), .val (.int (8 : Int32))] [])) _
    refine XS.iloadN X0.here hx rfl (hb hby d5_9) rfl ?_
    show Steps p.tables e below (s₁.setTop (mkF m 10 #[.val (.ref va), .val (.ref vb), .val (.int (8 : Int32))] [(.int (8 : Int32))])) _
    refine XS.aloadN X0.here hx rfl (hb hby d5_10) rfl rfl ?_
    show Steps p.tables e below (s₁.setTop (mkF m 11 #[.val (.ref va), .val (.ref vb), .val (.int (8 : Int32))] [(.ref va), (.int (8 : Int32))])) _
    exact kt
  have Vo_va_296 := A_a
  obtain ⟨cl_va_296, Ar_va_296, q_va_296, S_va_296, M_va_296, H_va_296, G_va_296⟩ := Vo_va_296
  have pre296 : ∀ t, Steps p.tables e below (s₁.setTop (mkF m 12 #[.val (.ref va), .val (.ref vb), .val (.int (8 : Int32))] [(.int (17 : Int32)), (.int (8 : Int32))])) t → Steps p.tables e below (s₁.setTop (entryFrame m #[(.ref va), (.ref vb)] 3)) t := fun t kt => by
    refine pre295 _ ?_
    refine X0.arraylength hx (by rw [e0]; exact Ar_va_296.1) (State.isArrayOf_alike hZ.alike Ar_va_296.2.1) (g := (mkF m 11 #[.val (.ref va), .val (.ref vb), .val (.int (8 : Int32))] [(.ref va), (.int (8 : Int32))])) rfl rfl (hb hby d5_11) _ ?_
    rw [len_of S_va_296 M_va_296]
    exact kt
  clear pre295  G_va_296 H_va_296 M_va_296 S_va_296 q_va_296 Ar_va_296
  have pre298 : ∀ t, Steps p.tables e below (s₁.setTop (mkF m 15 #[.val (.ref va), .val (.ref vb), .val (.int (8 : Int32))] [])) t → Steps p.tables e below (s₁.setTop (entryFrame m #[(.ref va), (.ref vb)] 3)) t := fun t kt => by
    refine pre296 _ ?_
    show Steps p.tables e below (s₁.setTop (mkF m 12 #[.val (.ref va), .val (.ref vb), .val (.int (8 : Int32))] [(.int (17 : Int32)), (.int (8 : Int32))])) _
    refine XS.icmpNo X0.here hx rfl (hb hby d5_12) rfl (tlt (by decide : (8 : Int32) < (17 : Int32))).2.1 ?_
    show Steps p.tables e below (s₁.setTop (mkF m 15 #[.val (.ref va), .val (.ref vb), .val (.int (8 : Int32))] [])) _
    exact kt
  have pre299 : ∀ t, Steps p.tables e below (s₁.setTop (mkF m 17 #[.val (.ref va), .val (.ref vb), .val (.int (8 : Int32))] [(.int (8 : Int32)), (.ref va)])) t → Steps p.tables e below (s₁.setTop (entryFrame m #[(.ref va), (.ref vb)] 3)) t := fun t kt => by
    refine pre298 _ ?_
    show Steps p.tables e below (s₁.setTop (mkF m 15 #[.val (.ref va), .val (.ref vb), .val (.int (8 : Int32))] [])) _
    refine XS.aloadN X0.here hx rfl (hb hby d5_15) rfl rfl ?_
    show Steps p.tables e below (s₁.setTop (mkF m 16 #[.val (.ref va), .val (.ref vb), .val (.int (8 : Int32))] [(.ref va)])) _
    refine XS.iloadN X0.here hx rfl (hb hby d5_16) rfl ?_
    show Steps p.tables e below (s₁.setTop (mkF m 17 #[.val (.ref va), .val (.ref vb), .val (.int (8 : Int32))] [(.int (8 : Int32)), (.ref va)])) _
    exact kt
  have Vo_va_300 := A_a
  obtain ⟨cl_va_300, Ar_va_300, q_va_300, S_va_300, M_va_300, H_va_300, G_va_300⟩ := Vo_va_300
  have hin300 : ¬ ((8 : Int32) < 0 ∨ cl_va_300.slots.size ≤ ((8 : Int32)).toNatClampNeg) := inb_of S_va_300 ⟨by decide, by decide⟩
  have hat300 : cl_va_300.slots[((8 : Int32)).toNatClampNeg]? = some (.int (76 : Int32)) := H_va_300.at hin300 rfl
  have pre301 : ∀ t, Steps p.tables e below (s₁.setTop (mkF m 18 #[.val (.ref va), .val (.ref vb), .val (.int (8 : Int32))] [(.int (76 : Int32))])) t → Steps p.tables e below (s₁.setTop (entryFrame m #[(.ref va), (.ref vb)] 3)) t := fun t kt => pre299 _ (X0.baloadBytes hx (j := (8 : Int32)) (v := (.int (76 : Int32))) (by rw [e0]; exact Ar_va_300.1) (State.isArrayOf_alike hZ.alike Ar_va_300.2.1) Ar_va_300.2.2 hin300 hat300 (g := (mkF m 17 #[.val (.ref va), .val (.ref vb), .val (.int (8 : Int32))] [(.int (8 : Int32)), (.ref va)])) rfl rfl (hb hby d5_17) t kt)
  clear pre299 hat300 hin300 G_va_300 H_va_300 M_va_300 S_va_300 q_va_300 Ar_va_300
  have pre302 : ∀ t, Steps p.tables e below (s₁.setTop (mkF m 20 #[.val (.ref va), .val (.ref vb), .val (.int (8 : Int32))] [(.int (8 : Int32)), (.ref vb), (.int (76 : Int32))])) t → Steps p.tables e below (s₁.setTop (entryFrame m #[(.ref va), (.ref vb)] 3)) t := fun t kt => by
    refine pre301 _ ?_
    show Steps p.tables e below (s₁.setTop (mkF m 18 #[.val (.ref va), .val (.ref vb), .val (.int (8 : Int32))] [(.int (76 : Int32))])) _
    refine XS.aloadN X0.here hx rfl (hb hby d5_18) rfl rfl ?_
    show Steps p.tables e below (s₁.setTop (mkF m 19 #[.val (.ref va), .val (.ref vb), .val (.int (8 : Int32))] [(.ref vb), (.int (76 : Int32))])) _
    refine XS.iloadN X0.here hx rfl (hb hby d5_19) rfl ?_
    show Steps p.tables e below (s₁.setTop (mkF m 20 #[.val (.ref va), .val (.ref vb), .val (.int (8 : Int32))] [(.int (8 : Int32)), (.ref vb), (.int (76 : Int32))])) _
    exact kt
  have Vo_vb_303 := A_b
  obtain ⟨cl_vb_303, Ar_vb_303, q_vb_303, S_vb_303, M_vb_303, H_vb_303, G_vb_303⟩ := Vo_vb_303
  have hin303 : ¬ ((8 : Int32) < 0 ∨ cl_vb_303.slots.size ≤ ((8 : Int32)).toNatClampNeg) := inb_of S_vb_303 ⟨by decide, by decide⟩
  have hat303 : cl_vb_303.slots[((8 : Int32)).toNatClampNeg]? = some (.int (76 : Int32)) := H_vb_303.at hin303 rfl
  have pre304 : ∀ t, Steps p.tables e below (s₁.setTop (mkF m 21 #[.val (.ref va), .val (.ref vb), .val (.int (8 : Int32))] [(.int (76 : Int32)), (.int (76 : Int32))])) t → Steps p.tables e below (s₁.setTop (entryFrame m #[(.ref va), (.ref vb)] 3)) t := fun t kt => pre302 _ (X0.baloadBytes hx (j := (8 : Int32)) (v := (.int (76 : Int32))) (by rw [e0]; exact Ar_vb_303.1) (State.isArrayOf_alike hZ.alike Ar_vb_303.2.1) Ar_vb_303.2.2 hin303 hat303 (g := (mkF m 20 #[.val (.ref va), .val (.ref vb), .val (.int (8 : Int32))] [(.int (8 : Int32)), (.ref vb), (.int (76 : Int32))])) rfl rfl (hb hby d5_20) t kt)
  clear pre302 hat303 hin303 G_vb_303 H_vb_303 M_vb_303 S_vb_303 q_vb_303 Ar_vb_303
  have pre306 : ∀ t, Steps p.tables e below (s₁.setTop (mkF m 26 #[.val (.ref va), .val (.ref vb), .val (.int (8 : Int32))] [])) t → Steps p.tables e below (s₁.setTop (entryFrame m #[(.ref va), (.ref vb)] 3)) t := fun t kt => by
    refine pre304 _ ?_
    show Steps p.tables e below (s₁.setTop (mkF m 21 #[.val (.ref va), .val (.ref vb), .val (.int (8 : Int32))] [(.int (76 : Int32)), (.int (76 : Int32))])) _
    refine XS.icmpYes X0.here hx rfl (pc0 := 21) (pc' := 26) rfl (hb hby d5_21) rfl (teq (by decide : (76 : Int32) = (76 : Int32))).1 (by decide) (by decide) ?_
    show Steps p.tables e below (s₁.setTop (mkF m 26 #[.val (.ref va), .val (.ref vb), .val (.int (8 : Int32))] [])) _
    exact kt
  have pre307 : ∀ t, Steps p.tables e below (s₁.setTop (mkF m 11 #[.val (.ref va), .val (.ref vb), .val (.int (9 : Int32))] [(.ref va), (.int (9 : Int32))])) t → Steps p.tables e below (s₁.setTop (entryFrame m #[(.ref va), (.ref vb)] 3)) t := fun t kt => by
    refine pre306 _ ?_
    show Steps p.tables e below (s₁.setTop (mkF m 26 #[.val (.ref va), .val (.ref vb), .val (.int (8 : Int32))] [])) _
    refine XS.iinc X0.here hx rfl (hb hby d5_26) rfl (l' := #[.val (.ref va), .val (.ref vb), .val (.int ((8 : Int32) + (1 : Int32)))]) rfl ?_
    show Steps p.tables e below (s₁.setTop (mkF m 29 #[.val (.ref va), .val (.ref vb), .val (.int (9 : Int32))] [])) _
    refine XS.goto X0.here hx rfl (pc0 := 29) (pc' := 9) rfl (hb hby d5_29) (by decide) (by decide) ?_
    show Steps p.tables e below (s₁.setTop (mkF m 9 #[.val (.ref va), .val (.ref vb), .val (.int (9 : Int32))] [])) _
    refine XS.iloadN X0.here hx rfl (hb hby d5_9) rfl ?_
    show Steps p.tables e below (s₁.setTop (mkF m 10 #[.val (.ref va), .val (.ref vb), .val (.int (9 : Int32))] [(.int (9 : Int32))])) _
    refine XS.aloadN X0.here hx rfl (hb hby d5_10) rfl rfl ?_
    show Steps p.tables e below (s₁.setTop (mkF m 11 #[.val (.ref va), .val (.ref vb), .val (.int (9 : Int32))] [(.ref va), (.int (9 : Int32))])) _
    exact kt
  have Vo_va_308 := A_a
  obtain ⟨cl_va_308, Ar_va_308, q_va_308, S_va_308, M_va_308, H_va_308, G_va_308⟩ := Vo_va_308
  have pre308 : ∀ t, Steps p.tables e below (s₁.setTop (mkF m 12 #[.val (.ref va), .val (.ref vb), .val (.int (9 : Int32))] [(.int (17 : Int32)), (.int (9 : Int32))])) t → Steps p.tables e below (s₁.setTop (entryFrame m #[(.ref va), (.ref vb)] 3)) t := fun t kt => by
    refine pre307 _ ?_
    refine X0.arraylength hx (by rw [e0]; exact Ar_va_308.1) (State.isArrayOf_alike hZ.alike Ar_va_308.2.1) (g := (mkF m 11 #[.val (.ref va), .val (.ref vb), .val (.int (9 : Int32))] [(.ref va), (.int (9 : Int32))])) rfl rfl (hb hby d5_11) _ ?_
    rw [len_of S_va_308 M_va_308]
    exact kt
  clear pre307  G_va_308 H_va_308 M_va_308 S_va_308 q_va_308 Ar_va_308
  have pre310 : ∀ t, Steps p.tables e below (s₁.setTop (mkF m 15 #[.val (.ref va), .val (.ref vb), .val (.int (9 : Int32))] [])) t → Steps p.tables e below (s₁.setTop (entryFrame m #[(.ref va), (.ref vb)] 3)) t := fun t kt => by
    refine pre308 _ ?_
    show Steps p.tables e below (s₁.setTop (mkF m 12 #[.val (.ref va), .val (.ref vb), .val (.int (9 : Int32))] [(.int (17 : Int32)), (.int (9 : Int32))])) _
    refine XS.icmpNo X0.here hx rfl (hb hby d5_12) rfl (tlt (by decide : (9 : Int32) < (17 : Int32))).2.1 ?_
    show Steps p.tables e below (s₁.setTop (mkF m 15 #[.val (.ref va), .val (.ref vb), .val (.int (9 : Int32))] [])) _
    exact kt
  have pre311 : ∀ t, Steps p.tables e below (s₁.setTop (mkF m 17 #[.val (.ref va), .val (.ref vb), .val (.int (9 : Int32))] [(.int (9 : Int32)), (.ref va)])) t → Steps p.tables e below (s₁.setTop (entryFrame m #[(.ref va), (.ref vb)] 3)) t := fun t kt => by
    refine pre310 _ ?_
    show Steps p.tables e below (s₁.setTop (mkF m 15 #[.val (.ref va), .val (.ref vb), .val (.int (9 : Int32))] [])) _
    refine XS.aloadN X0.here hx rfl (hb hby d5_15) rfl rfl ?_
    show Steps p.tables e below (s₁.setTop (mkF m 16 #[.val (.ref va), .val (.ref vb), .val (.int (9 : Int32))] [(.ref va)])) _
    refine XS.iloadN X0.here hx rfl (hb hby d5_16) rfl ?_
    show Steps p.tables e below (s₁.setTop (mkF m 17 #[.val (.ref va), .val (.ref vb), .val (.int (9 : Int32))] [(.int (9 : Int32)), (.ref va)])) _
    exact kt
  have Vo_va_312 := A_a
  obtain ⟨cl_va_312, Ar_va_312, q_va_312, S_va_312, M_va_312, H_va_312, G_va_312⟩ := Vo_va_312
  have hin312 : ¬ ((9 : Int32) < 0 ∨ cl_va_312.slots.size ≤ ((9 : Int32)).toNatClampNeg) := inb_of S_va_312 ⟨by decide, by decide⟩
  have hat312 : cl_va_312.slots[((9 : Int32)).toNatClampNeg]? = some (.int (32 : Int32)) := H_va_312.at hin312 rfl
  have pre313 : ∀ t, Steps p.tables e below (s₁.setTop (mkF m 18 #[.val (.ref va), .val (.ref vb), .val (.int (9 : Int32))] [(.int (32 : Int32))])) t → Steps p.tables e below (s₁.setTop (entryFrame m #[(.ref va), (.ref vb)] 3)) t := fun t kt => pre311 _ (X0.baloadBytes hx (j := (9 : Int32)) (v := (.int (32 : Int32))) (by rw [e0]; exact Ar_va_312.1) (State.isArrayOf_alike hZ.alike Ar_va_312.2.1) Ar_va_312.2.2 hin312 hat312 (g := (mkF m 17 #[.val (.ref va), .val (.ref vb), .val (.int (9 : Int32))] [(.int (9 : Int32)), (.ref va)])) rfl rfl (hb hby d5_17) t kt)
  clear pre311 hat312 hin312 G_va_312 H_va_312 M_va_312 S_va_312 q_va_312 Ar_va_312
  have pre314 : ∀ t, Steps p.tables e below (s₁.setTop (mkF m 20 #[.val (.ref va), .val (.ref vb), .val (.int (9 : Int32))] [(.int (9 : Int32)), (.ref vb), (.int (32 : Int32))])) t → Steps p.tables e below (s₁.setTop (entryFrame m #[(.ref va), (.ref vb)] 3)) t := fun t kt => by
    refine pre313 _ ?_
    show Steps p.tables e below (s₁.setTop (mkF m 18 #[.val (.ref va), .val (.ref vb), .val (.int (9 : Int32))] [(.int (32 : Int32))])) _
    refine XS.aloadN X0.here hx rfl (hb hby d5_18) rfl rfl ?_
    show Steps p.tables e below (s₁.setTop (mkF m 19 #[.val (.ref va), .val (.ref vb), .val (.int (9 : Int32))] [(.ref vb), (.int (32 : Int32))])) _
    refine XS.iloadN X0.here hx rfl (hb hby d5_19) rfl ?_
    show Steps p.tables e below (s₁.setTop (mkF m 20 #[.val (.ref va), .val (.ref vb), .val (.int (9 : Int32))] [(.int (9 : Int32)), (.ref vb), (.int (32 : Int32))])) _
    exact kt
  have Vo_vb_315 := A_b
  obtain ⟨cl_vb_315, Ar_vb_315, q_vb_315, S_vb_315, M_vb_315, H_vb_315, G_vb_315⟩ := Vo_vb_315
  have hin315 : ¬ ((9 : Int32) < 0 ∨ cl_vb_315.slots.size ≤ ((9 : Int32)).toNatClampNeg) := inb_of S_vb_315 ⟨by decide, by decide⟩
  have hat315 : cl_vb_315.slots[((9 : Int32)).toNatClampNeg]? = some (.int (32 : Int32)) := H_vb_315.at hin315 rfl
  have pre316 : ∀ t, Steps p.tables e below (s₁.setTop (mkF m 21 #[.val (.ref va), .val (.ref vb), .val (.int (9 : Int32))] [(.int (32 : Int32)), (.int (32 : Int32))])) t → Steps p.tables e below (s₁.setTop (entryFrame m #[(.ref va), (.ref vb)] 3)) t := fun t kt => pre314 _ (X0.baloadBytes hx (j := (9 : Int32)) (v := (.int (32 : Int32))) (by rw [e0]; exact Ar_vb_315.1) (State.isArrayOf_alike hZ.alike Ar_vb_315.2.1) Ar_vb_315.2.2 hin315 hat315 (g := (mkF m 20 #[.val (.ref va), .val (.ref vb), .val (.int (9 : Int32))] [(.int (9 : Int32)), (.ref vb), (.int (32 : Int32))])) rfl rfl (hb hby d5_20) t kt)
  clear pre314 hat315 hin315 G_vb_315 H_vb_315 M_vb_315 S_vb_315 q_vb_315 Ar_vb_315
  have pre318 : ∀ t, Steps p.tables e below (s₁.setTop (mkF m 26 #[.val (.ref va), .val (.ref vb), .val (.int (9 : Int32))] [])) t → Steps p.tables e below (s₁.setTop (entryFrame m #[(.ref va), (.ref vb)] 3)) t := fun t kt => by
    refine pre316 _ ?_
    show Steps p.tables e below (s₁.setTop (mkF m 21 #[.val (.ref va), .val (.ref vb), .val (.int (9 : Int32))] [(.int (32 : Int32)), (.int (32 : Int32))])) _
    refine XS.icmpYes X0.here hx rfl (pc0 := 21) (pc' := 26) rfl (hb hby d5_21) rfl (teq (by decide : (32 : Int32) = (32 : Int32))).1 (by decide) (by decide) ?_
    show Steps p.tables e below (s₁.setTop (mkF m 26 #[.val (.ref va), .val (.ref vb), .val (.int (9 : Int32))] [])) _
    exact kt
  have pre319 : ∀ t, Steps p.tables e below (s₁.setTop (mkF m 11 #[.val (.ref va), .val (.ref vb), .val (.int (10 : Int32))] [(.ref va), (.int (10 : Int32))])) t → Steps p.tables e below (s₁.setTop (entryFrame m #[(.ref va), (.ref vb)] 3)) t := fun t kt => by
    refine pre318 _ ?_
    show Steps p.tables e below (s₁.setTop (mkF m 26 #[.val (.ref va), .val (.ref vb), .val (.int (9 : Int32))] [])) _
    refine XS.iinc X0.here hx rfl (hb hby d5_26) rfl (l' := #[.val (.ref va), .val (.ref vb), .val (.int ((9 : Int32) + (1 : Int32)))]) rfl ?_
    show Steps p.tables e below (s₁.setTop (mkF m 29 #[.val (.ref va), .val (.ref vb), .val (.int (10 : Int32))] [])) _
    refine XS.goto X0.here hx rfl (pc0 := 29) (pc' := 9) rfl (hb hby d5_29) (by decide) (by decide) ?_
    show Steps p.tables e below (s₁.setTop (mkF m 9 #[.val (.ref va), .val (.ref vb), .val (.int (10 : Int32))] [])) _
    refine XS.iloadN X0.here hx rfl (hb hby d5_9) rfl ?_
    show Steps p.tables e below (s₁.setTop (mkF m 10 #[.val (.ref va), .val (.ref vb), .val (.int (10 : Int32))] [(.int (10 : Int32))])) _
    refine XS.aloadN X0.here hx rfl (hb hby d5_10) rfl rfl ?_
    show Steps p.tables e below (s₁.setTop (mkF m 11 #[.val (.ref va), .val (.ref vb), .val (.int (10 : Int32))] [(.ref va), (.int (10 : Int32))])) _
    exact kt
  have Vo_va_320 := A_a
  obtain ⟨cl_va_320, Ar_va_320, q_va_320, S_va_320, M_va_320, H_va_320, G_va_320⟩ := Vo_va_320
  have pre320 : ∀ t, Steps p.tables e below (s₁.setTop (mkF m 12 #[.val (.ref va), .val (.ref vb), .val (.int (10 : Int32))] [(.int (17 : Int32)), (.int (10 : Int32))])) t → Steps p.tables e below (s₁.setTop (entryFrame m #[(.ref va), (.ref vb)] 3)) t := fun t kt => by
    refine pre319 _ ?_
    refine X0.arraylength hx (by rw [e0]; exact Ar_va_320.1) (State.isArrayOf_alike hZ.alike Ar_va_320.2.1) (g := (mkF m 11 #[.val (.ref va), .val (.ref vb), .val (.int (10 : Int32))] [(.ref va), (.int (10 : Int32))])) rfl rfl (hb hby d5_11) _ ?_
    rw [len_of S_va_320 M_va_320]
    exact kt
  clear pre319  G_va_320 H_va_320 M_va_320 S_va_320 q_va_320 Ar_va_320
  have pre322 : ∀ t, Steps p.tables e below (s₁.setTop (mkF m 15 #[.val (.ref va), .val (.ref vb), .val (.int (10 : Int32))] [])) t → Steps p.tables e below (s₁.setTop (entryFrame m #[(.ref va), (.ref vb)] 3)) t := fun t kt => by
    refine pre320 _ ?_
    show Steps p.tables e below (s₁.setTop (mkF m 12 #[.val (.ref va), .val (.ref vb), .val (.int (10 : Int32))] [(.int (17 : Int32)), (.int (10 : Int32))])) _
    refine XS.icmpNo X0.here hx rfl (hb hby d5_12) rfl (tlt (by decide : (10 : Int32) < (17 : Int32))).2.1 ?_
    show Steps p.tables e below (s₁.setTop (mkF m 15 #[.val (.ref va), .val (.ref vb), .val (.int (10 : Int32))] [])) _
    exact kt
  have pre323 : ∀ t, Steps p.tables e below (s₁.setTop (mkF m 17 #[.val (.ref va), .val (.ref vb), .val (.int (10 : Int32))] [(.int (10 : Int32)), (.ref va)])) t → Steps p.tables e below (s₁.setTop (entryFrame m #[(.ref va), (.ref vb)] 3)) t := fun t kt => by
    refine pre322 _ ?_
    show Steps p.tables e below (s₁.setTop (mkF m 15 #[.val (.ref va), .val (.ref vb), .val (.int (10 : Int32))] [])) _
    refine XS.aloadN X0.here hx rfl (hb hby d5_15) rfl rfl ?_
    show Steps p.tables e below (s₁.setTop (mkF m 16 #[.val (.ref va), .val (.ref vb), .val (.int (10 : Int32))] [(.ref va)])) _
    refine XS.iloadN X0.here hx rfl (hb hby d5_16) rfl ?_
    show Steps p.tables e below (s₁.setTop (mkF m 17 #[.val (.ref va), .val (.ref vb), .val (.int (10 : Int32))] [(.int (10 : Int32)), (.ref va)])) _
    exact kt
  have Vo_va_324 := A_a
  obtain ⟨cl_va_324, Ar_va_324, q_va_324, S_va_324, M_va_324, H_va_324, G_va_324⟩ := Vo_va_324
  have hin324 : ¬ ((10 : Int32) < 0 ∨ cl_va_324.slots.size ≤ ((10 : Int32)).toNatClampNeg) := inb_of S_va_324 ⟨by decide, by decide⟩
  have hat324 : cl_va_324.slots[((10 : Int32)).toNatClampNeg]? = some (.int (97 : Int32)) := H_va_324.at hin324 rfl
  have pre325 : ∀ t, Steps p.tables e below (s₁.setTop (mkF m 18 #[.val (.ref va), .val (.ref vb), .val (.int (10 : Int32))] [(.int (97 : Int32))])) t → Steps p.tables e below (s₁.setTop (entryFrame m #[(.ref va), (.ref vb)] 3)) t := fun t kt => pre323 _ (X0.baloadBytes hx (j := (10 : Int32)) (v := (.int (97 : Int32))) (by rw [e0]; exact Ar_va_324.1) (State.isArrayOf_alike hZ.alike Ar_va_324.2.1) Ar_va_324.2.2 hin324 hat324 (g := (mkF m 17 #[.val (.ref va), .val (.ref vb), .val (.int (10 : Int32))] [(.int (10 : Int32)), (.ref va)])) rfl rfl (hb hby d5_17) t kt)
  clear pre323 hat324 hin324 G_va_324 H_va_324 M_va_324 S_va_324 q_va_324 Ar_va_324
  have pre326 : ∀ t, Steps p.tables e below (s₁.setTop (mkF m 20 #[.val (.ref va), .val (.ref vb), .val (.int (10 : Int32))] [(.int (10 : Int32)), (.ref vb), (.int (97 : Int32))])) t → Steps p.tables e below (s₁.setTop (entryFrame m #[(.ref va), (.ref vb)] 3)) t := fun t kt => by
    refine pre325 _ ?_
    show Steps p.tables e below (s₁.setTop (mkF m 18 #[.val (.ref va), .val (.ref vb), .val (.int (10 : Int32))] [(.int (97 : Int32))])) _
    refine XS.aloadN X0.here hx rfl (hb hby d5_18) rfl rfl ?_
    show Steps p.tables e below (s₁.setTop (mkF m 19 #[.val (.ref va), .val (.ref vb), .val (.int (10 : Int32))] [(.ref vb), (.int (97 : Int32))])) _
    refine XS.iloadN X0.here hx rfl (hb hby d5_19) rfl ?_
    show Steps p.tables e below (s₁.setTop (mkF m 20 #[.val (.ref va), .val (.ref vb), .val (.int (10 : Int32))] [(.int (10 : Int32)), (.ref vb), (.int (97 : Int32))])) _
    exact kt
  have Vo_vb_327 := A_b
  obtain ⟨cl_vb_327, Ar_vb_327, q_vb_327, S_vb_327, M_vb_327, H_vb_327, G_vb_327⟩ := Vo_vb_327
  have hin327 : ¬ ((10 : Int32) < 0 ∨ cl_vb_327.slots.size ≤ ((10 : Int32)).toNatClampNeg) := inb_of S_vb_327 ⟨by decide, by decide⟩
  have hat327 : cl_vb_327.slots[((10 : Int32)).toNatClampNeg]? = some (.int (97 : Int32)) := H_vb_327.at hin327 rfl
  have pre328 : ∀ t, Steps p.tables e below (s₁.setTop (mkF m 21 #[.val (.ref va), .val (.ref vb), .val (.int (10 : Int32))] [(.int (97 : Int32)), (.int (97 : Int32))])) t → Steps p.tables e below (s₁.setTop (entryFrame m #[(.ref va), (.ref vb)] 3)) t := fun t kt => pre326 _ (X0.baloadBytes hx (j := (10 : Int32)) (v := (.int (97 : Int32))) (by rw [e0]; exact Ar_vb_327.1) (State.isArrayOf_alike hZ.alike Ar_vb_327.2.1) Ar_vb_327.2.2 hin327 hat327 (g := (mkF m 20 #[.val (.ref va), .val (.ref vb), .val (.int (10 : Int32))] [(.int (10 : Int32)), (.ref vb), (.int (97 : Int32))])) rfl rfl (hb hby d5_20) t kt)
  clear pre326 hat327 hin327 G_vb_327 H_vb_327 M_vb_327 S_vb_327 q_vb_327 Ar_vb_327
  have pre330 : ∀ t, Steps p.tables e below (s₁.setTop (mkF m 26 #[.val (.ref va), .val (.ref vb), .val (.int (10 : Int32))] [])) t → Steps p.tables e below (s₁.setTop (entryFrame m #[(.ref va), (.ref vb)] 3)) t := fun t kt => by
    refine pre328 _ ?_
    show Steps p.tables e below (s₁.setTop (mkF m 21 #[.val (.ref va), .val (.ref vb), .val (.int (10 : Int32))] [(.int (97 : Int32)), (.int (97 : Int32))])) _
    refine XS.icmpYes X0.here hx rfl (pc0 := 21) (pc' := 26) rfl (hb hby d5_21) rfl (teq (by decide : (97 : Int32) = (97 : Int32))).1 (by decide) (by decide) ?_
    show Steps p.tables e below (s₁.setTop (mkF m 26 #[.val (.ref va), .val (.ref vb), .val (.int (10 : Int32))] [])) _
    exact kt
  have pre331 : ∀ t, Steps p.tables e below (s₁.setTop (mkF m 11 #[.val (.ref va), .val (.ref vb), .val (.int (11 : Int32))] [(.ref va), (.int (11 : Int32))])) t → Steps p.tables e below (s₁.setTop (entryFrame m #[(.ref va), (.ref vb)] 3)) t := fun t kt => by
    refine pre330 _ ?_
    show Steps p.tables e below (s₁.setTop (mkF m 26 #[.val (.ref va), .val (.ref vb), .val (.int (10 : Int32))] [])) _
    refine XS.iinc X0.here hx rfl (hb hby d5_26) rfl (l' := #[.val (.ref va), .val (.ref vb), .val (.int ((10 : Int32) + (1 : Int32)))]) rfl ?_
    show Steps p.tables e below (s₁.setTop (mkF m 29 #[.val (.ref va), .val (.ref vb), .val (.int (11 : Int32))] [])) _
    refine XS.goto X0.here hx rfl (pc0 := 29) (pc' := 9) rfl (hb hby d5_29) (by decide) (by decide) ?_
    show Steps p.tables e below (s₁.setTop (mkF m 9 #[.val (.ref va), .val (.ref vb), .val (.int (11 : Int32))] [])) _
    refine XS.iloadN X0.here hx rfl (hb hby d5_9) rfl ?_
    show Steps p.tables e below (s₁.setTop (mkF m 10 #[.val (.ref va), .val (.ref vb), .val (.int (11 : Int32))] [(.int (11 : Int32))])) _
    refine XS.aloadN X0.here hx rfl (hb hby d5_10) rfl rfl ?_
    show Steps p.tables e below (s₁.setTop (mkF m 11 #[.val (.ref va), .val (.ref vb), .val (.int (11 : Int32))] [(.ref va), (.int (11 : Int32))])) _
    exact kt
  have Vo_va_332 := A_a
  obtain ⟨cl_va_332, Ar_va_332, q_va_332, S_va_332, M_va_332, H_va_332, G_va_332⟩ := Vo_va_332
  have pre332 : ∀ t, Steps p.tables e below (s₁.setTop (mkF m 12 #[.val (.ref va), .val (.ref vb), .val (.int (11 : Int32))] [(.int (17 : Int32)), (.int (11 : Int32))])) t → Steps p.tables e below (s₁.setTop (entryFrame m #[(.ref va), (.ref vb)] 3)) t := fun t kt => by
    refine pre331 _ ?_
    refine X0.arraylength hx (by rw [e0]; exact Ar_va_332.1) (State.isArrayOf_alike hZ.alike Ar_va_332.2.1) (g := (mkF m 11 #[.val (.ref va), .val (.ref vb), .val (.int (11 : Int32))] [(.ref va), (.int (11 : Int32))])) rfl rfl (hb hby d5_11) _ ?_
    rw [len_of S_va_332 M_va_332]
    exact kt
  clear pre331  G_va_332 H_va_332 M_va_332 S_va_332 q_va_332 Ar_va_332
  have pre334 : ∀ t, Steps p.tables e below (s₁.setTop (mkF m 15 #[.val (.ref va), .val (.ref vb), .val (.int (11 : Int32))] [])) t → Steps p.tables e below (s₁.setTop (entryFrame m #[(.ref va), (.ref vb)] 3)) t := fun t kt => by
    refine pre332 _ ?_
    show Steps p.tables e below (s₁.setTop (mkF m 12 #[.val (.ref va), .val (.ref vb), .val (.int (11 : Int32))] [(.int (17 : Int32)), (.int (11 : Int32))])) _
    refine XS.icmpNo X0.here hx rfl (hb hby d5_12) rfl (tlt (by decide : (11 : Int32) < (17 : Int32))).2.1 ?_
    show Steps p.tables e below (s₁.setTop (mkF m 15 #[.val (.ref va), .val (.ref vb), .val (.int (11 : Int32))] [])) _
    exact kt
  have pre335 : ∀ t, Steps p.tables e below (s₁.setTop (mkF m 17 #[.val (.ref va), .val (.ref vb), .val (.int (11 : Int32))] [(.int (11 : Int32)), (.ref va)])) t → Steps p.tables e below (s₁.setTop (entryFrame m #[(.ref va), (.ref vb)] 3)) t := fun t kt => by
    refine pre334 _ ?_
    show Steps p.tables e below (s₁.setTop (mkF m 15 #[.val (.ref va), .val (.ref vb), .val (.int (11 : Int32))] [])) _
    refine XS.aloadN X0.here hx rfl (hb hby d5_15) rfl rfl ?_
    show Steps p.tables e below (s₁.setTop (mkF m 16 #[.val (.ref va), .val (.ref vb), .val (.int (11 : Int32))] [(.ref va)])) _
    refine XS.iloadN X0.here hx rfl (hb hby d5_16) rfl ?_
    show Steps p.tables e below (s₁.setTop (mkF m 17 #[.val (.ref va), .val (.ref vb), .val (.int (11 : Int32))] [(.int (11 : Int32)), (.ref va)])) _
    exact kt
  have Vo_va_336 := A_a
  obtain ⟨cl_va_336, Ar_va_336, q_va_336, S_va_336, M_va_336, H_va_336, G_va_336⟩ := Vo_va_336
  have hin336 : ¬ ((11 : Int32) < 0 ∨ cl_va_336.slots.size ≤ ((11 : Int32)).toNatClampNeg) := inb_of S_va_336 ⟨by decide, by decide⟩
  have hat336 : cl_va_336.slots[((11 : Int32)).toNatClampNeg]? = some (.int (109 : Int32)) := H_va_336.at hin336 rfl
  have pre337 : ∀ t, Steps p.tables e below (s₁.setTop (mkF m 18 #[.val (.ref va), .val (.ref vb), .val (.int (11 : Int32))] [(.int (109 : Int32))])) t → Steps p.tables e below (s₁.setTop (entryFrame m #[(.ref va), (.ref vb)] 3)) t := fun t kt => pre335 _ (X0.baloadBytes hx (j := (11 : Int32)) (v := (.int (109 : Int32))) (by rw [e0]; exact Ar_va_336.1) (State.isArrayOf_alike hZ.alike Ar_va_336.2.1) Ar_va_336.2.2 hin336 hat336 (g := (mkF m 17 #[.val (.ref va), .val (.ref vb), .val (.int (11 : Int32))] [(.int (11 : Int32)), (.ref va)])) rfl rfl (hb hby d5_17) t kt)
  clear pre335 hat336 hin336 G_va_336 H_va_336 M_va_336 S_va_336 q_va_336 Ar_va_336
  have pre338 : ∀ t, Steps p.tables e below (s₁.setTop (mkF m 20 #[.val (.ref va), .val (.ref vb), .val (.int (11 : Int32))] [(.int (11 : Int32)), (.ref vb), (.int (109 : Int32))])) t → Steps p.tables e below (s₁.setTop (entryFrame m #[(.ref va), (.ref vb)] 3)) t := fun t kt => by
    refine pre337 _ ?_
    show Steps p.tables e below (s₁.setTop (mkF m 18 #[.val (.ref va), .val (.ref vb), .val (.int (11 : Int32))] [(.int (109 : Int32))])) _
    refine XS.aloadN X0.here hx rfl (hb hby d5_18) rfl rfl ?_
    show Steps p.tables e below (s₁.setTop (mkF m 19 #[.val (.ref va), .val (.ref vb), .val (.int (11 : Int32))] [(.ref vb), (.int (109 : Int32))])) _
    refine XS.iloadN X0.here hx rfl (hb hby d5_19) rfl ?_
    show Steps p.tables e below (s₁.setTop (mkF m 20 #[.val (.ref va), .val (.ref vb), .val (.int (11 : Int32))] [(.int (11 : Int32)), (.ref vb), (.int (109 : Int32))])) _
    exact kt
  have Vo_vb_339 := A_b
  obtain ⟨cl_vb_339, Ar_vb_339, q_vb_339, S_vb_339, M_vb_339, H_vb_339, G_vb_339⟩ := Vo_vb_339
  have hin339 : ¬ ((11 : Int32) < 0 ∨ cl_vb_339.slots.size ≤ ((11 : Int32)).toNatClampNeg) := inb_of S_vb_339 ⟨by decide, by decide⟩
  have hat339 : cl_vb_339.slots[((11 : Int32)).toNatClampNeg]? = some (.int (109 : Int32)) := H_vb_339.at hin339 rfl
  have pre340 : ∀ t, Steps p.tables e below (s₁.setTop (mkF m 21 #[.val (.ref va), .val (.ref vb), .val (.int (11 : Int32))] [(.int (109 : Int32)), (.int (109 : Int32))])) t → Steps p.tables e below (s₁.setTop (entryFrame m #[(.ref va), (.ref vb)] 3)) t := fun t kt => pre338 _ (X0.baloadBytes hx (j := (11 : Int32)) (v := (.int (109 : Int32))) (by rw [e0]; exact Ar_vb_339.1) (State.isArrayOf_alike hZ.alike Ar_vb_339.2.1) Ar_vb_339.2.2 hin339 hat339 (g := (mkF m 20 #[.val (.ref va), .val (.ref vb), .val (.int (11 : Int32))] [(.int (11 : Int32)), (.ref vb), (.int (109 : Int32))])) rfl rfl (hb hby d5_20) t kt)
  clear pre338 hat339 hin339 G_vb_339 H_vb_339 M_vb_339 S_vb_339 q_vb_339 Ar_vb_339
  have pre342 : ∀ t, Steps p.tables e below (s₁.setTop (mkF m 26 #[.val (.ref va), .val (.ref vb), .val (.int (11 : Int32))] [])) t → Steps p.tables e below (s₁.setTop (entryFrame m #[(.ref va), (.ref vb)] 3)) t := fun t kt => by
    refine pre340 _ ?_
    show Steps p.tables e below (s₁.setTop (mkF m 21 #[.val (.ref va), .val (.ref vb), .val (.int (11 : Int32))] [(.int (109 : Int32)), (.int (109 : Int32))])) _
    refine XS.icmpYes X0.here hx rfl (pc0 := 21) (pc' := 26) rfl (hb hby d5_21) rfl (teq (by decide : (109 : Int32) = (109 : Int32))).1 (by decide) (by decide) ?_
    show Steps p.tables e below (s₁.setTop (mkF m 26 #[.val (.ref va), .val (.ref vb), .val (.int (11 : Int32))] [])) _
    exact kt
  have pre343 : ∀ t, Steps p.tables e below (s₁.setTop (mkF m 11 #[.val (.ref va), .val (.ref vb), .val (.int (12 : Int32))] [(.ref va), (.int (12 : Int32))])) t → Steps p.tables e below (s₁.setTop (entryFrame m #[(.ref va), (.ref vb)] 3)) t := fun t kt => by
    refine pre342 _ ?_
    show Steps p.tables e below (s₁.setTop (mkF m 26 #[.val (.ref va), .val (.ref vb), .val (.int (11 : Int32))] [])) _
    refine XS.iinc X0.here hx rfl (hb hby d5_26) rfl (l' := #[.val (.ref va), .val (.ref vb), .val (.int ((11 : Int32) + (1 : Int32)))]) rfl ?_
    show Steps p.tables e below (s₁.setTop (mkF m 29 #[.val (.ref va), .val (.ref vb), .val (.int (12 : Int32))] [])) _
    refine XS.goto X0.here hx rfl (pc0 := 29) (pc' := 9) rfl (hb hby d5_29) (by decide) (by decide) ?_
    show Steps p.tables e below (s₁.setTop (mkF m 9 #[.val (.ref va), .val (.ref vb), .val (.int (12 : Int32))] [])) _
    refine XS.iloadN X0.here hx rfl (hb hby d5_9) rfl ?_
    show Steps p.tables e below (s₁.setTop (mkF m 10 #[.val (.ref va), .val (.ref vb), .val (.int (12 : Int32))] [(.int (12 : Int32))])) _
    refine XS.aloadN X0.here hx rfl (hb hby d5_10) rfl rfl ?_
    show Steps p.tables e below (s₁.setTop (mkF m 11 #[.val (.ref va), .val (.ref vb), .val (.int (12 : Int32))] [(.ref va), (.int (12 : Int32))])) _
    exact kt
  have Vo_va_344 := A_a
  obtain ⟨cl_va_344, Ar_va_344, q_va_344, S_va_344, M_va_344, H_va_344, G_va_344⟩ := Vo_va_344
  have pre344 : ∀ t, Steps p.tables e below (s₁.setTop (mkF m 12 #[.val (.ref va), .val (.ref vb), .val (.int (12 : Int32))] [(.int (17 : Int32)), (.int (12 : Int32))])) t → Steps p.tables e below (s₁.setTop (entryFrame m #[(.ref va), (.ref vb)] 3)) t := fun t kt => by
    refine pre343 _ ?_
    refine X0.arraylength hx (by rw [e0]; exact Ar_va_344.1) (State.isArrayOf_alike hZ.alike Ar_va_344.2.1) (g := (mkF m 11 #[.val (.ref va), .val (.ref vb), .val (.int (12 : Int32))] [(.ref va), (.int (12 : Int32))])) rfl rfl (hb hby d5_11) _ ?_
    rw [len_of S_va_344 M_va_344]
    exact kt
  clear pre343  G_va_344 H_va_344 M_va_344 S_va_344 q_va_344 Ar_va_344
  have pre346 : ∀ t, Steps p.tables e below (s₁.setTop (mkF m 15 #[.val (.ref va), .val (.ref vb), .val (.int (12 : Int32))] [])) t → Steps p.tables e below (s₁.setTop (entryFrame m #[(.ref va), (.ref vb)] 3)) t := fun t kt => by
    refine pre344 _ ?_
    show Steps p.tables e below (s₁.setTop (mkF m 12 #[.val (.ref va), .val (.ref vb), .val (.int (12 : Int32))] [(.int (17 : Int32)), (.int (12 : Int32))])) _
    refine XS.icmpNo X0.here hx rfl (hb hby d5_12) rfl (tlt (by decide : (12 : Int32) < (17 : Int32))).2.1 ?_
    show Steps p.tables e below (s₁.setTop (mkF m 15 #[.val (.ref va), .val (.ref vb), .val (.int (12 : Int32))] [])) _
    exact kt
  have pre347 : ∀ t, Steps p.tables e below (s₁.setTop (mkF m 17 #[.val (.ref va), .val (.ref vb), .val (.int (12 : Int32))] [(.int (12 : Int32)), (.ref va)])) t → Steps p.tables e below (s₁.setTop (entryFrame m #[(.ref va), (.ref vb)] 3)) t := fun t kt => by
    refine pre346 _ ?_
    show Steps p.tables e below (s₁.setTop (mkF m 15 #[.val (.ref va), .val (.ref vb), .val (.int (12 : Int32))] [])) _
    refine XS.aloadN X0.here hx rfl (hb hby d5_15) rfl rfl ?_
    show Steps p.tables e below (s₁.setTop (mkF m 16 #[.val (.ref va), .val (.ref vb), .val (.int (12 : Int32))] [(.ref va)])) _
    refine XS.iloadN X0.here hx rfl (hb hby d5_16) rfl ?_
    show Steps p.tables e below (s₁.setTop (mkF m 17 #[.val (.ref va), .val (.ref vb), .val (.int (12 : Int32))] [(.int (12 : Int32)), (.ref va)])) _
    exact kt
  have Vo_va_348 := A_a
  obtain ⟨cl_va_348, Ar_va_348, q_va_348, S_va_348, M_va_348, H_va_348, G_va_348⟩ := Vo_va_348
  have hin348 : ¬ ((12 : Int32) < 0 ∨ cl_va_348.slots.size ≤ ((12 : Int32)).toNatClampNeg) := inb_of S_va_348 ⟨by decide, by decide⟩
  have hat348 : cl_va_348.slots[((12 : Int32)).toNatClampNeg]? = some (.int (111 : Int32)) := H_va_348.at hin348 rfl
  have pre349 : ∀ t, Steps p.tables e below (s₁.setTop (mkF m 18 #[.val (.ref va), .val (.ref vb), .val (.int (12 : Int32))] [(.int (111 : Int32))])) t → Steps p.tables e below (s₁.setTop (entryFrame m #[(.ref va), (.ref vb)] 3)) t := fun t kt => pre347 _ (X0.baloadBytes hx (j := (12 : Int32)) (v := (.int (111 : Int32))) (by rw [e0]; exact Ar_va_348.1) (State.isArrayOf_alike hZ.alike Ar_va_348.2.1) Ar_va_348.2.2 hin348 hat348 (g := (mkF m 17 #[.val (.ref va), .val (.ref vb), .val (.int (12 : Int32))] [(.int (12 : Int32)), (.ref va)])) rfl rfl (hb hby d5_17) t kt)
  clear pre347 hat348 hin348 G_va_348 H_va_348 M_va_348 S_va_348 q_va_348 Ar_va_348
  have pre350 : ∀ t, Steps p.tables e below (s₁.setTop (mkF m 20 #[.val (.ref va), .val (.ref vb), .val (.int (12 : Int32))] [(.int (12 : Int32)), (.ref vb), (.int (111 : Int32))])) t → Steps p.tables e below (s₁.setTop (entryFrame m #[(.ref va), (.ref vb)] 3)) t := fun t kt => by
    refine pre349 _ ?_
    show Steps p.tables e below (s₁.setTop (mkF m 18 #[.val (.ref va), .val (.ref vb), .val (.int (12 : Int32))] [(.int (111 : Int32))])) _
    refine XS.aloadN X0.here hx rfl (hb hby d5_18) rfl rfl ?_
    show Steps p.tables e below (s₁.setTop (mkF m 19 #[.val (.ref va), .val (.ref vb), .val (.int (12 : Int32))] [(.ref vb), (.int (111 : Int32))])) _
    refine XS.iloadN X0.here hx rfl (hb hby d5_19) rfl ?_
    show Steps p.tables e below (s₁.setTop (mkF m 20 #[.val (.ref va), .val (.ref vb), .val (.int (12 : Int32))] [(.int (12 : Int32)), (.ref vb), (.int (111 : Int32))])) _
    exact kt
  have Vo_vb_351 := A_b
  obtain ⟨cl_vb_351, Ar_vb_351, q_vb_351, S_vb_351, M_vb_351, H_vb_351, G_vb_351⟩ := Vo_vb_351
  have hin351 : ¬ ((12 : Int32) < 0 ∨ cl_vb_351.slots.size ≤ ((12 : Int32)).toNatClampNeg) := inb_of S_vb_351 ⟨by decide, by decide⟩
  have hat351 : cl_vb_351.slots[((12 : Int32)).toNatClampNeg]? = some (.int (111 : Int32)) := H_vb_351.at hin351 rfl
  have pre352 : ∀ t, Steps p.tables e below (s₁.setTop (mkF m 21 #[.val (.ref va), .val (.ref vb), .val (.int (12 : Int32))] [(.int (111 : Int32)), (.int (111 : Int32))])) t → Steps p.tables e below (s₁.setTop (entryFrame m #[(.ref va), (.ref vb)] 3)) t := fun t kt => pre350 _ (X0.baloadBytes hx (j := (12 : Int32)) (v := (.int (111 : Int32))) (by rw [e0]; exact Ar_vb_351.1) (State.isArrayOf_alike hZ.alike Ar_vb_351.2.1) Ar_vb_351.2.2 hin351 hat351 (g := (mkF m 20 #[.val (.ref va), .val (.ref vb), .val (.int (12 : Int32))] [(.int (12 : Int32)), (.ref vb), (.int (111 : Int32))])) rfl rfl (hb hby d5_20) t kt)
  clear pre350 hat351 hin351 G_vb_351 H_vb_351 M_vb_351 S_vb_351 q_vb_351 Ar_vb_351
  have pre354 : ∀ t, Steps p.tables e below (s₁.setTop (mkF m 26 #[.val (.ref va), .val (.ref vb), .val (.int (12 : Int32))] [])) t → Steps p.tables e below (s₁.setTop (entryFrame m #[(.ref va), (.ref vb)] 3)) t := fun t kt => by
    refine pre352 _ ?_
    show Steps p.tables e below (s₁.setTop (mkF m 21 #[.val (.ref va), .val (.ref vb), .val (.int (12 : Int32))] [(.int (111 : Int32)), (.int (111 : Int32))])) _
    refine XS.icmpYes X0.here hx rfl (pc0 := 21) (pc' := 26) rfl (hb hby d5_21) rfl (teq (by decide : (111 : Int32) = (111 : Int32))).1 (by decide) (by decide) ?_
    show Steps p.tables e below (s₁.setTop (mkF m 26 #[.val (.ref va), .val (.ref vb), .val (.int (12 : Int32))] [])) _
    exact kt
  have pre355 : ∀ t, Steps p.tables e below (s₁.setTop (mkF m 11 #[.val (.ref va), .val (.ref vb), .val (.int (13 : Int32))] [(.ref va), (.int (13 : Int32))])) t → Steps p.tables e below (s₁.setTop (entryFrame m #[(.ref va), (.ref vb)] 3)) t := fun t kt => by
    refine pre354 _ ?_
    show Steps p.tables e below (s₁.setTop (mkF m 26 #[.val (.ref va), .val (.ref vb), .val (.int (12 : Int32))] [])) _
    refine XS.iinc X0.here hx rfl (hb hby d5_26) rfl (l' := #[.val (.ref va), .val (.ref vb), .val (.int ((12 : Int32) + (1 : Int32)))]) rfl ?_
    show Steps p.tables e below (s₁.setTop (mkF m 29 #[.val (.ref va), .val (.ref vb), .val (.int (13 : Int32))] [])) _
    refine XS.goto X0.here hx rfl (pc0 := 29) (pc' := 9) rfl (hb hby d5_29) (by decide) (by decide) ?_
    show Steps p.tables e below (s₁.setTop (mkF m 9 #[.val (.ref va), .val (.ref vb), .val (.int (13 : Int32))] [])) _
    refine XS.iloadN X0.here hx rfl (hb hby d5_9) rfl ?_
    show Steps p.tables e below (s₁.setTop (mkF m 10 #[.val (.ref va), .val (.ref vb), .val (.int (13 : Int32))] [(.int (13 : Int32))])) _
    refine XS.aloadN X0.here hx rfl (hb hby d5_10) rfl rfl ?_
    show Steps p.tables e below (s₁.setTop (mkF m 11 #[.val (.ref va), .val (.ref vb), .val (.int (13 : Int32))] [(.ref va), (.int (13 : Int32))])) _
    exact kt
  have Vo_va_356 := A_a
  obtain ⟨cl_va_356, Ar_va_356, q_va_356, S_va_356, M_va_356, H_va_356, G_va_356⟩ := Vo_va_356
  have pre356 : ∀ t, Steps p.tables e below (s₁.setTop (mkF m 12 #[.val (.ref va), .val (.ref vb), .val (.int (13 : Int32))] [(.int (17 : Int32)), (.int (13 : Int32))])) t → Steps p.tables e below (s₁.setTop (entryFrame m #[(.ref va), (.ref vb)] 3)) t := fun t kt => by
    refine pre355 _ ?_
    refine X0.arraylength hx (by rw [e0]; exact Ar_va_356.1) (State.isArrayOf_alike hZ.alike Ar_va_356.2.1) (g := (mkF m 11 #[.val (.ref va), .val (.ref vb), .val (.int (13 : Int32))] [(.ref va), (.int (13 : Int32))])) rfl rfl (hb hby d5_11) _ ?_
    rw [len_of S_va_356 M_va_356]
    exact kt
  clear pre355  G_va_356 H_va_356 M_va_356 S_va_356 q_va_356 Ar_va_356
  have pre358 : ∀ t, Steps p.tables e below (s₁.setTop (mkF m 15 #[.val (.ref va), .val (.ref vb), .val (.int (13 : Int32))] [])) t → Steps p.tables e below (s₁.setTop (entryFrame m #[(.ref va), (.ref vb)] 3)) t := fun t kt => by
    refine pre356 _ ?_
    show Steps p.tables e below (s₁.setTop (mkF m 12 #[.val (.ref va), .val (.ref vb), .val (.int (13 : Int32))] [(.int (17 : Int32)), (.int (13 : Int32))])) _
    refine XS.icmpNo X0.here hx rfl (hb hby d5_12) rfl (tlt (by decide : (13 : Int32) < (17 : Int32))).2.1 ?_
    show Steps p.tables e below (s₁.setTop (mkF m 15 #[.val (.ref va), .val (.ref vb), .val (.int (13 : Int32))] [])) _
    exact kt
  have pre359 : ∀ t, Steps p.tables e below (s₁.setTop (mkF m 17 #[.val (.ref va), .val (.ref vb), .val (.int (13 : Int32))] [(.int (13 : Int32)), (.ref va)])) t → Steps p.tables e below (s₁.setTop (entryFrame m #[(.ref va), (.ref vb)] 3)) t := fun t kt => by
    refine pre358 _ ?_
    show Steps p.tables e below (s₁.setTop (mkF m 15 #[.val (.ref va), .val (.ref vb), .val (.int (13 : Int32))] [])) _
    refine XS.aloadN X0.here hx rfl (hb hby d5_15) rfl rfl ?_
    show Steps p.tables e below (s₁.setTop (mkF m 16 #[.val (.ref va), .val (.ref vb), .val (.int (13 : Int32))] [(.ref va)])) _
    refine XS.iloadN X0.here hx rfl (hb hby d5_16) rfl ?_
    show Steps p.tables e below (s₁.setTop (mkF m 17 #[.val (.ref va), .val (.ref vb), .val (.int (13 : Int32))] [(.int (13 : Int32)), (.ref va)])) _
    exact kt
  have Vo_va_360 := A_a
  obtain ⟨cl_va_360, Ar_va_360, q_va_360, S_va_360, M_va_360, H_va_360, G_va_360⟩ := Vo_va_360
  have hin360 : ¬ ((13 : Int32) < 0 ∨ cl_va_360.slots.size ≤ ((13 : Int32)).toNatClampNeg) := inb_of S_va_360 ⟨by decide, by decide⟩
  have hat360 : cl_va_360.slots[((13 : Int32)).toNatClampNeg]? = some (.int (117 : Int32)) := H_va_360.at hin360 rfl
  have pre361 : ∀ t, Steps p.tables e below (s₁.setTop (mkF m 18 #[.val (.ref va), .val (.ref vb), .val (.int (13 : Int32))] [(.int (117 : Int32))])) t → Steps p.tables e below (s₁.setTop (entryFrame m #[(.ref va), (.ref vb)] 3)) t := fun t kt => pre359 _ (X0.baloadBytes hx (j := (13 : Int32)) (v := (.int (117 : Int32))) (by rw [e0]; exact Ar_va_360.1) (State.isArrayOf_alike hZ.alike Ar_va_360.2.1) Ar_va_360.2.2 hin360 hat360 (g := (mkF m 17 #[.val (.ref va), .val (.ref vb), .val (.int (13 : Int32))] [(.int (13 : Int32)), (.ref va)])) rfl rfl (hb hby d5_17) t kt)
  clear pre359 hat360 hin360 G_va_360 H_va_360 M_va_360 S_va_360 q_va_360 Ar_va_360
  have pre362 : ∀ t, Steps p.tables e below (s₁.setTop (mkF m 20 #[.val (.ref va), .val (.ref vb), .val (.int (13 : Int32))] [(.int (13 : Int32)), (.ref vb), (.int (117 : Int32))])) t → Steps p.tables e below (s₁.setTop (entryFrame m #[(.ref va), (.ref vb)] 3)) t := fun t kt => by
    refine pre361 _ ?_
    show Steps p.tables e below (s₁.setTop (mkF m 18 #[.val (.ref va), .val (.ref vb), .val (.int (13 : Int32))] [(.int (117 : Int32))])) _
    refine XS.aloadN X0.here hx rfl (hb hby d5_18) rfl rfl ?_
    show Steps p.tables e below (s₁.setTop (mkF m 19 #[.val (.ref va), .val (.ref vb), .val (.int (13 : Int32))] [(.ref vb), (.int (117 : Int32))])) _
    refine XS.iloadN X0.here hx rfl (hb hby d5_19) rfl ?_
    show Steps p.tables e below (s₁.setTop (mkF m 20 #[.val (.ref va), .val (.ref vb), .val (.int (13 : Int32))] [(.int (13 : Int32)), (.ref vb), (.int (117 : Int32))])) _
    exact kt
  have Vo_vb_363 := A_b
  obtain ⟨cl_vb_363, Ar_vb_363, q_vb_363, S_vb_363, M_vb_363, H_vb_363, G_vb_363⟩ := Vo_vb_363
  have hin363 : ¬ ((13 : Int32) < 0 ∨ cl_vb_363.slots.size ≤ ((13 : Int32)).toNatClampNeg) := inb_of S_vb_363 ⟨by decide, by decide⟩
  have hat363 : cl_vb_363.slots[((13 : Int32)).toNatClampNeg]? = some (.int (117 : Int32)) := H_vb_363.at hin363 rfl
  have pre364 : ∀ t, Steps p.tables e below (s₁.setTop (mkF m 21 #[.val (.ref va), .val (.ref vb), .val (.int (13 : Int32))] [(.int (117 : Int32)), (.int (117 : Int32))])) t → Steps p.tables e below (s₁.setTop (entryFrame m #[(.ref va), (.ref vb)] 3)) t := fun t kt => pre362 _ (X0.baloadBytes hx (j := (13 : Int32)) (v := (.int (117 : Int32))) (by rw [e0]; exact Ar_vb_363.1) (State.isArrayOf_alike hZ.alike Ar_vb_363.2.1) Ar_vb_363.2.2 hin363 hat363 (g := (mkF m 20 #[.val (.ref va), .val (.ref vb), .val (.int (13 : Int32))] [(.int (13 : Int32)), (.ref vb), (.int (117 : Int32))])) rfl rfl (hb hby d5_20) t kt)
  clear pre362 hat363 hin363 G_vb_363 H_vb_363 M_vb_363 S_vb_363 q_vb_363 Ar_vb_363
  have pre366 : ∀ t, Steps p.tables e below (s₁.setTop (mkF m 26 #[.val (.ref va), .val (.ref vb), .val (.int (13 : Int32))] [])) t → Steps p.tables e below (s₁.setTop (entryFrame m #[(.ref va), (.ref vb)] 3)) t := fun t kt => by
    refine pre364 _ ?_
    show Steps p.tables e below (s₁.setTop (mkF m 21 #[.val (.ref va), .val (.ref vb), .val (.int (13 : Int32))] [(.int (117 : Int32)), (.int (117 : Int32))])) _
    refine XS.icmpYes X0.here hx rfl (pc0 := 21) (pc' := 26) rfl (hb hby d5_21) rfl (teq (by decide : (117 : Int32) = (117 : Int32))).1 (by decide) (by decide) ?_
    show Steps p.tables e below (s₁.setTop (mkF m 26 #[.val (.ref va), .val (.ref vb), .val (.int (13 : Int32))] [])) _
    exact kt
  have pre367 : ∀ t, Steps p.tables e below (s₁.setTop (mkF m 11 #[.val (.ref va), .val (.ref vb), .val (.int (14 : Int32))] [(.ref va), (.int (14 : Int32))])) t → Steps p.tables e below (s₁.setTop (entryFrame m #[(.ref va), (.ref vb)] 3)) t := fun t kt => by
    refine pre366 _ ?_
    show Steps p.tables e below (s₁.setTop (mkF m 26 #[.val (.ref va), .val (.ref vb), .val (.int (13 : Int32))] [])) _
    refine XS.iinc X0.here hx rfl (hb hby d5_26) rfl (l' := #[.val (.ref va), .val (.ref vb), .val (.int ((13 : Int32) + (1 : Int32)))]) rfl ?_
    show Steps p.tables e below (s₁.setTop (mkF m 29 #[.val (.ref va), .val (.ref vb), .val (.int (14 : Int32))] [])) _
    refine XS.goto X0.here hx rfl (pc0 := 29) (pc' := 9) rfl (hb hby d5_29) (by decide) (by decide) ?_
    show Steps p.tables e below (s₁.setTop (mkF m 9 #[.val (.ref va), .val (.ref vb), .val (.int (14 : Int32))] [])) _
    refine XS.iloadN X0.here hx rfl (hb hby d5_9) rfl ?_
    show Steps p.tables e below (s₁.setTop (mkF m 10 #[.val (.ref va), .val (.ref vb), .val (.int (14 : Int32))] [(.int (14 : Int32))])) _
    refine XS.aloadN X0.here hx rfl (hb hby d5_10) rfl rfl ?_
    show Steps p.tables e below (s₁.setTop (mkF m 11 #[.val (.ref va), .val (.ref vb), .val (.int (14 : Int32))] [(.ref va), (.int (14 : Int32))])) _
    exact kt
  have Vo_va_368 := A_a
  obtain ⟨cl_va_368, Ar_va_368, q_va_368, S_va_368, M_va_368, H_va_368, G_va_368⟩ := Vo_va_368
  have pre368 : ∀ t, Steps p.tables e below (s₁.setTop (mkF m 12 #[.val (.ref va), .val (.ref vb), .val (.int (14 : Int32))] [(.int (17 : Int32)), (.int (14 : Int32))])) t → Steps p.tables e below (s₁.setTop (entryFrame m #[(.ref va), (.ref vb)] 3)) t := fun t kt => by
    refine pre367 _ ?_
    refine X0.arraylength hx (by rw [e0]; exact Ar_va_368.1) (State.isArrayOf_alike hZ.alike Ar_va_368.2.1) (g := (mkF m 11 #[.val (.ref va), .val (.ref vb), .val (.int (14 : Int32))] [(.ref va), (.int (14 : Int32))])) rfl rfl (hb hby d5_11) _ ?_
    rw [len_of S_va_368 M_va_368]
    exact kt
  clear pre367  G_va_368 H_va_368 M_va_368 S_va_368 q_va_368 Ar_va_368
  have pre370 : ∀ t, Steps p.tables e below (s₁.setTop (mkF m 15 #[.val (.ref va), .val (.ref vb), .val (.int (14 : Int32))] [])) t → Steps p.tables e below (s₁.setTop (entryFrame m #[(.ref va), (.ref vb)] 3)) t := fun t kt => by
    refine pre368 _ ?_
    show Steps p.tables e below (s₁.setTop (mkF m 12 #[.val (.ref va), .val (.ref vb), .val (.int (14 : Int32))] [(.int (17 : Int32)), (.int (14 : Int32))])) _
    refine XS.icmpNo X0.here hx rfl (hb hby d5_12) rfl (tlt (by decide : (14 : Int32) < (17 : Int32))).2.1 ?_
    show Steps p.tables e below (s₁.setTop (mkF m 15 #[.val (.ref va), .val (.ref vb), .val (.int (14 : Int32))] [])) _
    exact kt
  have pre371 : ∀ t, Steps p.tables e below (s₁.setTop (mkF m 17 #[.val (.ref va), .val (.ref vb), .val (.int (14 : Int32))] [(.int (14 : Int32)), (.ref va)])) t → Steps p.tables e below (s₁.setTop (entryFrame m #[(.ref va), (.ref vb)] 3)) t := fun t kt => by
    refine pre370 _ ?_
    show Steps p.tables e below (s₁.setTop (mkF m 15 #[.val (.ref va), .val (.ref vb), .val (.int (14 : Int32))] [])) _
    refine XS.aloadN X0.here hx rfl (hb hby d5_15) rfl rfl ?_
    show Steps p.tables e below (s₁.setTop (mkF m 16 #[.val (.ref va), .val (.ref vb), .val (.int (14 : Int32))] [(.ref va)])) _
    refine XS.iloadN X0.here hx rfl (hb hby d5_16) rfl ?_
    show Steps p.tables e below (s₁.setTop (mkF m 17 #[.val (.ref va), .val (.ref vb), .val (.int (14 : Int32))] [(.int (14 : Int32)), (.ref va)])) _
    exact kt
  have Vo_va_372 := A_a
  obtain ⟨cl_va_372, Ar_va_372, q_va_372, S_va_372, M_va_372, H_va_372, G_va_372⟩ := Vo_va_372
  have hin372 : ¬ ((14 : Int32) < 0 ∨ cl_va_372.slots.size ≤ ((14 : Int32)).toNatClampNeg) := inb_of S_va_372 ⟨by decide, by decide⟩
  have hat372 : cl_va_372.slots[((14 : Int32)).toNatClampNeg]? = some (.int (110 : Int32)) := H_va_372.at hin372 rfl
  have pre373 : ∀ t, Steps p.tables e below (s₁.setTop (mkF m 18 #[.val (.ref va), .val (.ref vb), .val (.int (14 : Int32))] [(.int (110 : Int32))])) t → Steps p.tables e below (s₁.setTop (entryFrame m #[(.ref va), (.ref vb)] 3)) t := fun t kt => pre371 _ (X0.baloadBytes hx (j := (14 : Int32)) (v := (.int (110 : Int32))) (by rw [e0]; exact Ar_va_372.1) (State.isArrayOf_alike hZ.alike Ar_va_372.2.1) Ar_va_372.2.2 hin372 hat372 (g := (mkF m 17 #[.val (.ref va), .val (.ref vb), .val (.int (14 : Int32))] [(.int (14 : Int32)), (.ref va)])) rfl rfl (hb hby d5_17) t kt)
  clear pre371 hat372 hin372 G_va_372 H_va_372 M_va_372 S_va_372 q_va_372 Ar_va_372
  have pre374 : ∀ t, Steps p.tables e below (s₁.setTop (mkF m 20 #[.val (.ref va), .val (.ref vb), .val (.int (14 : Int32))] [(.int (14 : Int32)), (.ref vb), (.int (110 : Int32))])) t → Steps p.tables e below (s₁.setTop (entryFrame m #[(.ref va), (.ref vb)] 3)) t := fun t kt => by
    refine pre373 _ ?_
    show Steps p.tables e below (s₁.setTop (mkF m 18 #[.val (.ref va), .val (.ref vb), .val (.int (14 : Int32))] [(.int (110 : Int32))])) _
    refine XS.aloadN X0.here hx rfl (hb hby d5_18) rfl rfl ?_
    show Steps p.tables e below (s₁.setTop (mkF m 19 #[.val (.ref va), .val (.ref vb), .val (.int (14 : Int32))] [(.ref vb), (.int (110 : Int32))])) _
    refine XS.iloadN X0.here hx rfl (hb hby d5_19) rfl ?_
    show Steps p.tables e below (s₁.setTop (mkF m 20 #[.val (.ref va), .val (.ref vb), .val (.int (14 : Int32))] [(.int (14 : Int32)), (.ref vb), (.int (110 : Int32))])) _
    exact kt
  have Vo_vb_375 := A_b
  obtain ⟨cl_vb_375, Ar_vb_375, q_vb_375, S_vb_375, M_vb_375, H_vb_375, G_vb_375⟩ := Vo_vb_375
  have hin375 : ¬ ((14 : Int32) < 0 ∨ cl_vb_375.slots.size ≤ ((14 : Int32)).toNatClampNeg) := inb_of S_vb_375 ⟨by decide, by decide⟩
  have hat375 : cl_vb_375.slots[((14 : Int32)).toNatClampNeg]? = some (.int (110 : Int32)) := H_vb_375.at hin375 rfl
  have pre376 : ∀ t, Steps p.tables e below (s₁.setTop (mkF m 21 #[.val (.ref va), .val (.ref vb), .val (.int (14 : Int32))] [(.int (110 : Int32)), (.int (110 : Int32))])) t → Steps p.tables e below (s₁.setTop (entryFrame m #[(.ref va), (.ref vb)] 3)) t := fun t kt => pre374 _ (X0.baloadBytes hx (j := (14 : Int32)) (v := (.int (110 : Int32))) (by rw [e0]; exact Ar_vb_375.1) (State.isArrayOf_alike hZ.alike Ar_vb_375.2.1) Ar_vb_375.2.2 hin375 hat375 (g := (mkF m 20 #[.val (.ref va), .val (.ref vb), .val (.int (14 : Int32))] [(.int (14 : Int32)), (.ref vb), (.int (110 : Int32))])) rfl rfl (hb hby d5_20) t kt)
  clear pre374 hat375 hin375 G_vb_375 H_vb_375 M_vb_375 S_vb_375 q_vb_375 Ar_vb_375
  have pre378 : ∀ t, Steps p.tables e below (s₁.setTop (mkF m 26 #[.val (.ref va), .val (.ref vb), .val (.int (14 : Int32))] [])) t → Steps p.tables e below (s₁.setTop (entryFrame m #[(.ref va), (.ref vb)] 3)) t := fun t kt => by
    refine pre376 _ ?_
    show Steps p.tables e below (s₁.setTop (mkF m 21 #[.val (.ref va), .val (.ref vb), .val (.int (14 : Int32))] [(.int (110 : Int32)), (.int (110 : Int32))])) _
    refine XS.icmpYes X0.here hx rfl (pc0 := 21) (pc' := 26) rfl (hb hby d5_21) rfl (teq (by decide : (110 : Int32) = (110 : Int32))).1 (by decide) (by decide) ?_
    show Steps p.tables e below (s₁.setTop (mkF m 26 #[.val (.ref va), .val (.ref vb), .val (.int (14 : Int32))] [])) _
    exact kt
  have pre379 : ∀ t, Steps p.tables e below (s₁.setTop (mkF m 11 #[.val (.ref va), .val (.ref vb), .val (.int (15 : Int32))] [(.ref va), (.int (15 : Int32))])) t → Steps p.tables e below (s₁.setTop (entryFrame m #[(.ref va), (.ref vb)] 3)) t := fun t kt => by
    refine pre378 _ ?_
    show Steps p.tables e below (s₁.setTop (mkF m 26 #[.val (.ref va), .val (.ref vb), .val (.int (14 : Int32))] [])) _
    refine XS.iinc X0.here hx rfl (hb hby d5_26) rfl (l' := #[.val (.ref va), .val (.ref vb), .val (.int ((14 : Int32) + (1 : Int32)))]) rfl ?_
    show Steps p.tables e below (s₁.setTop (mkF m 29 #[.val (.ref va), .val (.ref vb), .val (.int (15 : Int32))] [])) _
    refine XS.goto X0.here hx rfl (pc0 := 29) (pc' := 9) rfl (hb hby d5_29) (by decide) (by decide) ?_
    show Steps p.tables e below (s₁.setTop (mkF m 9 #[.val (.ref va), .val (.ref vb), .val (.int (15 : Int32))] [])) _
    refine XS.iloadN X0.here hx rfl (hb hby d5_9) rfl ?_
    show Steps p.tables e below (s₁.setTop (mkF m 10 #[.val (.ref va), .val (.ref vb), .val (.int (15 : Int32))] [(.int (15 : Int32))])) _
    refine XS.aloadN X0.here hx rfl (hb hby d5_10) rfl rfl ?_
    show Steps p.tables e below (s₁.setTop (mkF m 11 #[.val (.ref va), .val (.ref vb), .val (.int (15 : Int32))] [(.ref va), (.int (15 : Int32))])) _
    exact kt
  have Vo_va_380 := A_a
  obtain ⟨cl_va_380, Ar_va_380, q_va_380, S_va_380, M_va_380, H_va_380, G_va_380⟩ := Vo_va_380
  have pre380 : ∀ t, Steps p.tables e below (s₁.setTop (mkF m 12 #[.val (.ref va), .val (.ref vb), .val (.int (15 : Int32))] [(.int (17 : Int32)), (.int (15 : Int32))])) t → Steps p.tables e below (s₁.setTop (entryFrame m #[(.ref va), (.ref vb)] 3)) t := fun t kt => by
    refine pre379 _ ?_
    refine X0.arraylength hx (by rw [e0]; exact Ar_va_380.1) (State.isArrayOf_alike hZ.alike Ar_va_380.2.1) (g := (mkF m 11 #[.val (.ref va), .val (.ref vb), .val (.int (15 : Int32))] [(.ref va), (.int (15 : Int32))])) rfl rfl (hb hby d5_11) _ ?_
    rw [len_of S_va_380 M_va_380]
    exact kt
  clear pre379  G_va_380 H_va_380 M_va_380 S_va_380 q_va_380 Ar_va_380
  have pre382 : ∀ t, Steps p.tables e below (s₁.setTop (mkF m 15 #[.val (.ref va), .val (.ref vb), .val (.int (15 : Int32))] [])) t → Steps p.tables e below (s₁.setTop (entryFrame m #[(.ref va), (.ref vb)] 3)) t := fun t kt => by
    refine pre380 _ ?_
    show Steps p.tables e below (s₁.setTop (mkF m 12 #[.val (.ref va), .val (.ref vb), .val (.int (15 : Int32))] [(.int (17 : Int32)), (.int (15 : Int32))])) _
    refine XS.icmpNo X0.here hx rfl (hb hby d5_12) rfl (tlt (by decide : (15 : Int32) < (17 : Int32))).2.1 ?_
    show Steps p.tables e below (s₁.setTop (mkF m 15 #[.val (.ref va), .val (.ref vb), .val (.int (15 : Int32))] [])) _
    exact kt
  have pre383 : ∀ t, Steps p.tables e below (s₁.setTop (mkF m 17 #[.val (.ref va), .val (.ref vb), .val (.int (15 : Int32))] [(.int (15 : Int32)), (.ref va)])) t → Steps p.tables e below (s₁.setTop (entryFrame m #[(.ref va), (.ref vb)] 3)) t := fun t kt => by
    refine pre382 _ ?_
    show Steps p.tables e below (s₁.setTop (mkF m 15 #[.val (.ref va), .val (.ref vb), .val (.int (15 : Int32))] [])) _
    refine XS.aloadN X0.here hx rfl (hb hby d5_15) rfl rfl ?_
    show Steps p.tables e below (s₁.setTop (mkF m 16 #[.val (.ref va), .val (.ref vb), .val (.int (15 : Int32))] [(.ref va)])) _
    refine XS.iloadN X0.here hx rfl (hb hby d5_16) rfl ?_
    show Steps p.tables e below (s₁.setTop (mkF m 17 #[.val (.ref va), .val (.ref vb), .val (.int (15 : Int32))] [(.int (15 : Int32)), (.ref va)])) _
    exact kt
  have Vo_va_384 := A_a
  obtain ⟨cl_va_384, Ar_va_384, q_va_384, S_va_384, M_va_384, H_va_384, G_va_384⟩ := Vo_va_384
  have hin384 : ¬ ((15 : Int32) < 0 ∨ cl_va_384.slots.size ≤ ((15 : Int32)).toNatClampNeg) := inb_of S_va_384 ⟨by decide, by decide⟩
  have hat384 : cl_va_384.slots[((15 : Int32)).toNatClampNeg]? = some (.int (116 : Int32)) := H_va_384.at hin384 rfl
  have pre385 : ∀ t, Steps p.tables e below (s₁.setTop (mkF m 18 #[.val (.ref va), .val (.ref vb), .val (.int (15 : Int32))] [(.int (116 : Int32))])) t → Steps p.tables e below (s₁.setTop (entryFrame m #[(.ref va), (.ref vb)] 3)) t := fun t kt => pre383 _ (X0.baloadBytes hx (j := (15 : Int32)) (v := (.int (116 : Int32))) (by rw [e0]; exact Ar_va_384.1) (State.isArrayOf_alike hZ.alike Ar_va_384.2.1) Ar_va_384.2.2 hin384 hat384 (g := (mkF m 17 #[.val (.ref va), .val (.ref vb), .val (.int (15 : Int32))] [(.int (15 : Int32)), (.ref va)])) rfl rfl (hb hby d5_17) t kt)
  clear pre383 hat384 hin384 G_va_384 H_va_384 M_va_384 S_va_384 q_va_384 Ar_va_384
  have pre386 : ∀ t, Steps p.tables e below (s₁.setTop (mkF m 20 #[.val (.ref va), .val (.ref vb), .val (.int (15 : Int32))] [(.int (15 : Int32)), (.ref vb), (.int (116 : Int32))])) t → Steps p.tables e below (s₁.setTop (entryFrame m #[(.ref va), (.ref vb)] 3)) t := fun t kt => by
    refine pre385 _ ?_
    show Steps p.tables e below (s₁.setTop (mkF m 18 #[.val (.ref va), .val (.ref vb), .val (.int (15 : Int32))] [(.int (116 : Int32))])) _
    refine XS.aloadN X0.here hx rfl (hb hby d5_18) rfl rfl ?_
    show Steps p.tables e below (s₁.setTop (mkF m 19 #[.val (.ref va), .val (.ref vb), .val (.int (15 : Int32))] [(.ref vb), (.int (116 : Int32))])) _
    refine XS.iloadN X0.here hx rfl (hb hby d5_19) rfl ?_
    show Steps p.tables e below (s₁.setTop (mkF m 20 #[.val (.ref va), .val (.ref vb), .val (.int (15 : Int32))] [(.int (15 : Int32)), (.ref vb), (.int (116 : Int32))])) _
    exact kt
  have Vo_vb_387 := A_b
  obtain ⟨cl_vb_387, Ar_vb_387, q_vb_387, S_vb_387, M_vb_387, H_vb_387, G_vb_387⟩ := Vo_vb_387
  have hin387 : ¬ ((15 : Int32) < 0 ∨ cl_vb_387.slots.size ≤ ((15 : Int32)).toNatClampNeg) := inb_of S_vb_387 ⟨by decide, by decide⟩
  have hat387 : cl_vb_387.slots[((15 : Int32)).toNatClampNeg]? = some (.int (116 : Int32)) := H_vb_387.at hin387 rfl
  have pre388 : ∀ t, Steps p.tables e below (s₁.setTop (mkF m 21 #[.val (.ref va), .val (.ref vb), .val (.int (15 : Int32))] [(.int (116 : Int32)), (.int (116 : Int32))])) t → Steps p.tables e below (s₁.setTop (entryFrame m #[(.ref va), (.ref vb)] 3)) t := fun t kt => pre386 _ (X0.baloadBytes hx (j := (15 : Int32)) (v := (.int (116 : Int32))) (by rw [e0]; exact Ar_vb_387.1) (State.isArrayOf_alike hZ.alike Ar_vb_387.2.1) Ar_vb_387.2.2 hin387 hat387 (g := (mkF m 20 #[.val (.ref va), .val (.ref vb), .val (.int (15 : Int32))] [(.int (15 : Int32)), (.ref vb), (.int (116 : Int32))])) rfl rfl (hb hby d5_20) t kt)
  clear pre386 hat387 hin387 G_vb_387 H_vb_387 M_vb_387 S_vb_387 q_vb_387 Ar_vb_387
  have pre390 : ∀ t, Steps p.tables e below (s₁.setTop (mkF m 26 #[.val (.ref va), .val (.ref vb), .val (.int (15 : Int32))] [])) t → Steps p.tables e below (s₁.setTop (entryFrame m #[(.ref va), (.ref vb)] 3)) t := fun t kt => by
    refine pre388 _ ?_
    show Steps p.tables e below (s₁.setTop (mkF m 21 #[.val (.ref va), .val (.ref vb), .val (.int (15 : Int32))] [(.int (116 : Int32)), (.int (116 : Int32))])) _
    refine XS.icmpYes X0.here hx rfl (pc0 := 21) (pc' := 26) rfl (hb hby d5_21) rfl (teq (by decide : (116 : Int32) = (116 : Int32))).1 (by decide) (by decide) ?_
    show Steps p.tables e below (s₁.setTop (mkF m 26 #[.val (.ref va), .val (.ref vb), .val (.int (15 : Int32))] [])) _
    exact kt
  have pre391 : ∀ t, Steps p.tables e below (s₁.setTop (mkF m 11 #[.val (.ref va), .val (.ref vb), .val (.int (16 : Int32))] [(.ref va), (.int (16 : Int32))])) t → Steps p.tables e below (s₁.setTop (entryFrame m #[(.ref va), (.ref vb)] 3)) t := fun t kt => by
    refine pre390 _ ?_
    show Steps p.tables e below (s₁.setTop (mkF m 26 #[.val (.ref va), .val (.ref vb), .val (.int (15 : Int32))] [])) _
    refine XS.iinc X0.here hx rfl (hb hby d5_26) rfl (l' := #[.val (.ref va), .val (.ref vb), .val (.int ((15 : Int32) + (1 : Int32)))]) rfl ?_
    show Steps p.tables e below (s₁.setTop (mkF m 29 #[.val (.ref va), .val (.ref vb), .val (.int (16 : Int32))] [])) _
    refine XS.goto X0.here hx rfl (pc0 := 29) (pc' := 9) rfl (hb hby d5_29) (by decide) (by decide) ?_
    show Steps p.tables e below (s₁.setTop (mkF m 9 #[.val (.ref va), .val (.ref vb), .val (.int (16 : Int32))] [])) _
    refine XS.iloadN X0.here hx rfl (hb hby d5_9) rfl ?_
    show Steps p.tables e below (s₁.setTop (mkF m 10 #[.val (.ref va), .val (.ref vb), .val (.int (16 : Int32))] [(.int (16 : Int32))])) _
    refine XS.aloadN X0.here hx rfl (hb hby d5_10) rfl rfl ?_
    show Steps p.tables e below (s₁.setTop (mkF m 11 #[.val (.ref va), .val (.ref vb), .val (.int (16 : Int32))] [(.ref va), (.int (16 : Int32))])) _
    exact kt
  have Vo_va_392 := A_a
  obtain ⟨cl_va_392, Ar_va_392, q_va_392, S_va_392, M_va_392, H_va_392, G_va_392⟩ := Vo_va_392
  have pre392 : ∀ t, Steps p.tables e below (s₁.setTop (mkF m 12 #[.val (.ref va), .val (.ref vb), .val (.int (16 : Int32))] [(.int (17 : Int32)), (.int (16 : Int32))])) t → Steps p.tables e below (s₁.setTop (entryFrame m #[(.ref va), (.ref vb)] 3)) t := fun t kt => by
    refine pre391 _ ?_
    refine X0.arraylength hx (by rw [e0]; exact Ar_va_392.1) (State.isArrayOf_alike hZ.alike Ar_va_392.2.1) (g := (mkF m 11 #[.val (.ref va), .val (.ref vb), .val (.int (16 : Int32))] [(.ref va), (.int (16 : Int32))])) rfl rfl (hb hby d5_11) _ ?_
    rw [len_of S_va_392 M_va_392]
    exact kt
  clear pre391  G_va_392 H_va_392 M_va_392 S_va_392 q_va_392 Ar_va_392
  have pre394 : ∀ t, Steps p.tables e below (s₁.setTop (mkF m 15 #[.val (.ref va), .val (.ref vb), .val (.int (16 : Int32))] [])) t → Steps p.tables e below (s₁.setTop (entryFrame m #[(.ref va), (.ref vb)] 3)) t := fun t kt => by
    refine pre392 _ ?_
    show Steps p.tables e below (s₁.setTop (mkF m 12 #[.val (.ref va), .val (.ref vb), .val (.int (16 : Int32))] [(.int (17 : Int32)), (.int (16 : Int32))])) _
    refine XS.icmpNo X0.here hx rfl (hb hby d5_12) rfl (tlt (by decide : (16 : Int32) < (17 : Int32))).2.1 ?_
    show Steps p.tables e below (s₁.setTop (mkF m 15 #[.val (.ref va), .val (.ref vb), .val (.int (16 : Int32))] [])) _
    exact kt
  have pre395 : ∀ t, Steps p.tables e below (s₁.setTop (mkF m 17 #[.val (.ref va), .val (.ref vb), .val (.int (16 : Int32))] [(.int (16 : Int32)), (.ref va)])) t → Steps p.tables e below (s₁.setTop (entryFrame m #[(.ref va), (.ref vb)] 3)) t := fun t kt => by
    refine pre394 _ ?_
    show Steps p.tables e below (s₁.setTop (mkF m 15 #[.val (.ref va), .val (.ref vb), .val (.int (16 : Int32))] [])) _
    refine XS.aloadN X0.here hx rfl (hb hby d5_15) rfl rfl ?_
    show Steps p.tables e below (s₁.setTop (mkF m 16 #[.val (.ref va), .val (.ref vb), .val (.int (16 : Int32))] [(.ref va)])) _
    refine XS.iloadN X0.here hx rfl (hb hby d5_16) rfl ?_
    show Steps p.tables e below (s₁.setTop (mkF m 17 #[.val (.ref va), .val (.ref vb), .val (.int (16 : Int32))] [(.int (16 : Int32)), (.ref va)])) _
    exact kt
  have Vo_va_396 := A_a
  obtain ⟨cl_va_396, Ar_va_396, q_va_396, S_va_396, M_va_396, H_va_396, G_va_396⟩ := Vo_va_396
  have hin396 : ¬ ((16 : Int32) < 0 ∨ cl_va_396.slots.size ≤ ((16 : Int32)).toNatClampNeg) := inb_of S_va_396 ⟨by decide, by decide⟩
  have hat396 : cl_va_396.slots[((16 : Int32)).toNatClampNeg]? = some (.int (115 : Int32)) := H_va_396.at hin396 rfl
  have pre397 : ∀ t, Steps p.tables e below (s₁.setTop (mkF m 18 #[.val (.ref va), .val (.ref vb), .val (.int (16 : Int32))] [(.int (115 : Int32))])) t → Steps p.tables e below (s₁.setTop (entryFrame m #[(.ref va), (.ref vb)] 3)) t := fun t kt => pre395 _ (X0.baloadBytes hx (j := (16 : Int32)) (v := (.int (115 : Int32))) (by rw [e0]; exact Ar_va_396.1) (State.isArrayOf_alike hZ.alike Ar_va_396.2.1) Ar_va_396.2.2 hin396 hat396 (g := (mkF m 17 #[.val (.ref va), .val (.ref vb), .val (.int (16 : Int32))] [(.int (16 : Int32)), (.ref va)])) rfl rfl (hb hby d5_17) t kt)
  clear pre395 hat396 hin396 G_va_396 H_va_396 M_va_396 S_va_396 q_va_396 Ar_va_396
  have pre398 : ∀ t, Steps p.tables e below (s₁.setTop (mkF m 20 #[.val (.ref va), .val (.ref vb), .val (.int (16 : Int32))] [(.int (16 : Int32)), (.ref vb), (.int (115 : Int32))])) t → Steps p.tables e below (s₁.setTop (entryFrame m #[(.ref va), (.ref vb)] 3)) t := fun t kt => by
    refine pre397 _ ?_
    show Steps p.tables e below (s₁.setTop (mkF m 18 #[.val (.ref va), .val (.ref vb), .val (.int (16 : Int32))] [(.int (115 : Int32))])) _
    refine XS.aloadN X0.here hx rfl (hb hby d5_18) rfl rfl ?_
    show Steps p.tables e below (s₁.setTop (mkF m 19 #[.val (.ref va), .val (.ref vb), .val (.int (16 : Int32))] [(.ref vb), (.int (115 : Int32))])) _
    refine XS.iloadN X0.here hx rfl (hb hby d5_19) rfl ?_
    show Steps p.tables e below (s₁.setTop (mkF m 20 #[.val (.ref va), .val (.ref vb), .val (.int (16 : Int32))] [(.int (16 : Int32)), (.ref vb), (.int (115 : Int32))])) _
    exact kt
  have Vo_vb_399 := A_b
  obtain ⟨cl_vb_399, Ar_vb_399, q_vb_399, S_vb_399, M_vb_399, H_vb_399, G_vb_399⟩ := Vo_vb_399
  have hin399 : ¬ ((16 : Int32) < 0 ∨ cl_vb_399.slots.size ≤ ((16 : Int32)).toNatClampNeg) := inb_of S_vb_399 ⟨by decide, by decide⟩
  have hat399 : cl_vb_399.slots[((16 : Int32)).toNatClampNeg]? = some (.int (115 : Int32)) := H_vb_399.at hin399 rfl
  have pre400 : ∀ t, Steps p.tables e below (s₁.setTop (mkF m 21 #[.val (.ref va), .val (.ref vb), .val (.int (16 : Int32))] [(.int (115 : Int32)), (.int (115 : Int32))])) t → Steps p.tables e below (s₁.setTop (entryFrame m #[(.ref va), (.ref vb)] 3)) t := fun t kt => pre398 _ (X0.baloadBytes hx (j := (16 : Int32)) (v := (.int (115 : Int32))) (by rw [e0]; exact Ar_vb_399.1) (State.isArrayOf_alike hZ.alike Ar_vb_399.2.1) Ar_vb_399.2.2 hin399 hat399 (g := (mkF m 20 #[.val (.ref va), .val (.ref vb), .val (.int (16 : Int32))] [(.int (16 : Int32)), (.ref vb), (.int (115 : Int32))])) rfl rfl (hb hby d5_20) t kt)
  clear pre398 hat399 hin399 G_vb_399 H_vb_399 M_vb_399 S_vb_399 q_vb_399 Ar_vb_399
  have pre402 : ∀ t, Steps p.tables e below (s₁.setTop (mkF m 26 #[.val (.ref va), .val (.ref vb), .val (.int (16 : Int32))] [])) t → Steps p.tables e below (s₁.setTop (entryFrame m #[(.ref va), (.ref vb)] 3)) t := fun t kt => by
    refine pre400 _ ?_
    show Steps p.tables e below (s₁.setTop (mkF m 21 #[.val (.ref va), .val (.ref vb), .val (.int (16 : Int32))] [(.int (115 : Int32)), (.int (115 : Int32))])) _
    refine XS.icmpYes X0.here hx rfl (pc0 := 21) (pc' := 26) rfl (hb hby d5_21) rfl (teq (by decide : (115 : Int32) = (115 : Int32))).1 (by decide) (by decide) ?_
    show Steps p.tables e below (s₁.setTop (mkF m 26 #[.val (.ref va), .val (.ref vb), .val (.int (16 : Int32))] [])) _
    exact kt
  have pre403 : ∀ t, Steps p.tables e below (s₁.setTop (mkF m 11 #[.val (.ref va), .val (.ref vb), .val (.int (17 : Int32))] [(.ref va), (.int (17 : Int32))])) t → Steps p.tables e below (s₁.setTop (entryFrame m #[(.ref va), (.ref vb)] 3)) t := fun t kt => by
    refine pre402 _ ?_
    show Steps p.tables e below (s₁.setTop (mkF m 26 #[.val (.ref va), .val (.ref vb), .val (.int (16 : Int32))] [])) _
    refine XS.iinc X0.here hx rfl (hb hby d5_26) rfl (l' := #[.val (.ref va), .val (.ref vb), .val (.int ((16 : Int32) + (1 : Int32)))]) rfl ?_
    show Steps p.tables e below (s₁.setTop (mkF m 29 #[.val (.ref va), .val (.ref vb), .val (.int (17 : Int32))] [])) _
    refine XS.goto X0.here hx rfl (pc0 := 29) (pc' := 9) rfl (hb hby d5_29) (by decide) (by decide) ?_
    show Steps p.tables e below (s₁.setTop (mkF m 9 #[.val (.ref va), .val (.ref vb), .val (.int (17 : Int32))] [])) _
    refine XS.iloadN X0.here hx rfl (hb hby d5_9) rfl ?_
    show Steps p.tables e below (s₁.setTop (mkF m 10 #[.val (.ref va), .val (.ref vb), .val (.int (17 : Int32))] [(.int (17 : Int32))])) _
    refine XS.aloadN X0.here hx rfl (hb hby d5_10) rfl rfl ?_
    show Steps p.tables e below (s₁.setTop (mkF m 11 #[.val (.ref va), .val (.ref vb), .val (.int (17 : Int32))] [(.ref va), (.int (17 : Int32))])) _
    exact kt
  have Vo_va_404 := A_a
  obtain ⟨cl_va_404, Ar_va_404, q_va_404, S_va_404, M_va_404, H_va_404, G_va_404⟩ := Vo_va_404
  have pre404 : ∀ t, Steps p.tables e below (s₁.setTop (mkF m 12 #[.val (.ref va), .val (.ref vb), .val (.int (17 : Int32))] [(.int (17 : Int32)), (.int (17 : Int32))])) t → Steps p.tables e below (s₁.setTop (entryFrame m #[(.ref va), (.ref vb)] 3)) t := fun t kt => by
    refine pre403 _ ?_
    refine X0.arraylength hx (by rw [e0]; exact Ar_va_404.1) (State.isArrayOf_alike hZ.alike Ar_va_404.2.1) (g := (mkF m 11 #[.val (.ref va), .val (.ref vb), .val (.int (17 : Int32))] [(.ref va), (.int (17 : Int32))])) rfl rfl (hb hby d5_11) _ ?_
    rw [len_of S_va_404 M_va_404]
    exact kt
  clear pre403  G_va_404 H_va_404 M_va_404 S_va_404 q_va_404 Ar_va_404
  have pre406 : ∀ t, Steps p.tables e below (s₁.setTop (mkF m 32 #[.val (.ref va), .val (.ref vb), .val (.int (17 : Int32))] [])) t → Steps p.tables e below (s₁.setTop (entryFrame m #[(.ref va), (.ref vb)] 3)) t := fun t kt => by
    refine pre404 _ ?_
    show Steps p.tables e below (s₁.setTop (mkF m 12 #[.val (.ref va), .val (.ref vb), .val (.int (17 : Int32))] [(.int (17 : Int32)), (.int (17 : Int32))])) _
    refine XS.icmpYes X0.here hx rfl (pc0 := 12) (pc' := 32) rfl (hb hby d5_12) rfl (flt (by decide : ¬ ((17 : Int32) < (17 : Int32)))).2.1 (by decide) (by decide) ?_
    show Steps p.tables e below (s₁.setTop (mkF m 32 #[.val (.ref va), .val (.ref vb), .val (.int (17 : Int32))] [])) _
    exact kt
  have pre407 : ∀ t, Steps p.tables e below (s₁.setTop (mkF m 33 #[.val (.ref va), .val (.ref vb), .val (.int (17 : Int32))] [(.int (1 : Int32))])) t → Steps p.tables e below (s₁.setTop (entryFrame m #[(.ref va), (.ref vb)] 3)) t := fun t kt => by
    refine pre406 _ ?_
    show Steps p.tables e below (s₁.setTop (mkF m 32 #[.val (.ref va), .val (.ref vb), .val (.int (17 : Int32))] [])) _
    refine XS.iconst X0.here hx rfl (hb hby d5_32) ?_
    show Steps p.tables e below (s₁.setTop (mkF m 33 #[.val (.ref va), .val (.ref vb), .val (.int (17 : Int32))] [(.int (1 : Int32))])) _
    exact kt
  obtain ⟨fs, hr, hrun, hended, hW, hsame⟩ := X0.leave (v := some (.int (1 : Int32))) (fun h => by rw [Bd.returns] at h; cases h)
  refine ⟨_, _, pre407 _ ?_, hrun, hended, _, _, rfl, ?_, ⟨_, rfl⟩, hW, hsame.mono (by decide) (by decide)⟩
  · show Steps p.tables e below (s₁.setTop (mkF m 33 #[.val (.ref va), .val (.ref vb), .val (.int (17 : Int32))] [(.int (1 : Int32))])) _
    exact retN X0 hx (t := .boolean) Bd.returns (by simp) (hb hby d5_33) hr
  · show Q5_b va vb ka kb h0 n0 _ s₁.heap _
    rw [e0]
    exact ⟨rfl, N0, rfl⟩
def Q5_c (va vb : Addr) (ka kb : ClassId) (h0 : Heap) (n0 : Nat) (v : Option Value) (h : Heap) (L : List Loc) : Prop := v = some (.int (0 : Int32)) ∧ Fr n0 L ∧ h = h0
set_option maxRecDepth 65536 in
set_option maxHeartbeats 40000000 in
theorem rm5_c (l : Launch) (Z : State) (aZ : Array Value) (hw : ∀ d ∈ tables_1, d.before aZ Z = true) (ws : List Jvm.Cond) (va vb : Addr) (ka kb : ClassId) (h0 : Heap) (n0 : Nat) (Z0 : n0 ≤ h0.size) (A_a : Arv Z h0 va ka .byte (17 : Int32) [(.int (100 : Int32)), (.int (97 : Int32)), (.int (105 : Int32)), (.int (108 : Int32)), (.int (121 : Int32)), (.int (32 : Int32)), (.int (80 : Int32)), (.int (38 : Int32)), (.int (76 : Int32)), (.int (32 : Int32)), (.int (97 : Int32)), (.int (109 : Int32)), (.int (111 : Int32)), (.int (117 : Int32)), (.int (110 : Int32)), (.int (116 : Int32)), (.int (115 : Int32))] (.int (0 : Int32))) (A_b : Arv Z h0 vb kb .byte (13 : Int32) [(.int (100 : Int32)), (.int (97 : Int32)), (.int (105 : Int32)), (.int (108 : Int32)), (.int (121 : Int32)), (.int (32 : Int32)), (.int (114 : Int32)), (.int (101 : Int32)), (.int (116 : Int32)), (.int (117 : Int32)), (.int (114 : Int32)), (.int (110 : Int32)), (.int (115 : Int32))] (.int (0 : Int32))) :
    MetFree l (⟨"java/lang/StringLatin1", "equals", "([B[B)Z"⟩ : MethodName) (head1 (Jvm.Cond.code (⟨"java/lang/StringLatin1", "equals", "([B[B)Z"⟩ : MethodName) jdk_43_method_13_code 3 (some .boolean) :: ws) ({ frames := 0, cells := 0, slots := 0, locals := 0 } : Room)) (fun a U => a = #[(.ref va), (.ref vb)] ∧ Z.Warmed39 U.vm ∧ U.heap = h0) (fun _ _ _ _ _ => True) (fun _ U oc U' => ∃ v L, oc = .returned v ∧ Q5_c va vb ka kb h0 n0 v U'.heap L ∧ FrameEnd U oc U' L ({ frames := 0, cells := 0, slots := 0, locals := 0 } : Room).cells ({ frames := 0, cells := 0, slots := 0, locals := 0 } : Room).slots) := by
  refine MetFree.of_bodySF (plainFor_of_name pn_5) hisR ?_
  intro p e s m args below meth c s₁ Bd hml0 hP hK
  obtain ⟨rfl, hZ, hh⟩ := hP
  have hx := Bd.exec
  have hby := Bd.bytes
  have hml : c.maxLocals = 3 := hml0
  have hown : s.vm.findClass "java/lang/StringLatin1" = some m.cls := findClass_of_methodNamed Bd.named
  have hnm := (name_of_methodNamed Bd.named Bd.method).1
  have X0 : Stand p l e ({ frames := 0, cells := 0, slots := 0, locals := 0 } : Room) s m #[(.ref va), (.ref vb)] below meth c s₁ [] 0 0 := Stand.of_body Bd
  have e0 : s₁.heap = h0 := by rw [← hh, Bd.state]; rfl
  have N0 := Fr.nil n0
  have pre0 : ∀ t, Steps p.tables e below (s₁.setTop (mkF m 0 #[.val (.ref va), .val (.ref vb), .unset] [])) t → Steps p.tables e below (s₁.setTop (entryFrame m #[(.ref va), (.ref vb)] 3)) t := fun t kt => castTop (ef_5 m va vb) kt
  have pre408 : ∀ t, Steps p.tables e below (s₁.setTop (mkF m 1 #[.val (.ref va), .val (.ref vb), .unset] [(.ref va)])) t → Steps p.tables e below (s₁.setTop (entryFrame m #[(.ref va), (.ref vb)] 3)) t := fun t kt => by
    refine pre0 _ ?_
    show Steps p.tables e below (s₁.setTop (mkF m 0 #[.val (.ref va), .val (.ref vb), .unset] [])) _
    refine XS.aloadN X0.here hx rfl (hb hby d5_0) rfl rfl ?_
    show Steps p.tables e below (s₁.setTop (mkF m 1 #[.val (.ref va), .val (.ref vb), .unset] [(.ref va)])) _
    exact kt
  have Vo_va_409 := A_a
  obtain ⟨cl_va_409, Ar_va_409, q_va_409, S_va_409, M_va_409, H_va_409, G_va_409⟩ := Vo_va_409
  have pre409 : ∀ t, Steps p.tables e below (s₁.setTop (mkF m 2 #[.val (.ref va), .val (.ref vb), .unset] [(.int (17 : Int32))])) t → Steps p.tables e below (s₁.setTop (entryFrame m #[(.ref va), (.ref vb)] 3)) t := fun t kt => by
    refine pre408 _ ?_
    refine X0.arraylength hx (by rw [e0]; exact Ar_va_409.1) (State.isArrayOf_alike hZ.alike Ar_va_409.2.1) (g := (mkF m 1 #[.val (.ref va), .val (.ref vb), .unset] [(.ref va)])) rfl rfl (hb hby d5_1) _ ?_
    rw [len_of S_va_409 M_va_409]
    exact kt
  clear pre408  G_va_409 H_va_409 M_va_409 S_va_409 q_va_409 Ar_va_409
  have pre410 : ∀ t, Steps p.tables e below (s₁.setTop (mkF m 3 #[.val (.ref va), .val (.ref vb), .unset] [(.ref vb), (.int (17 : Int32))])) t → Steps p.tables e below (s₁.setTop (entryFrame m #[(.ref va), (.ref vb)] 3)) t := fun t kt => by
    refine pre409 _ ?_
    show Steps p.tables e below (s₁.setTop (mkF m 2 #[.val (.ref va), .val (.ref vb), .unset] [(.int (17 : Int32))])) _
    refine XS.aloadN X0.here hx rfl (hb hby d5_2) rfl rfl ?_
    show Steps p.tables e below (s₁.setTop (mkF m 3 #[.val (.ref va), .val (.ref vb), .unset] [(.ref vb), (.int (17 : Int32))])) _
    exact kt
  have Vo_vb_411 := A_b
  obtain ⟨cl_vb_411, Ar_vb_411, q_vb_411, S_vb_411, M_vb_411, H_vb_411, G_vb_411⟩ := Vo_vb_411
  have pre411 : ∀ t, Steps p.tables e below (s₁.setTop (mkF m 4 #[.val (.ref va), .val (.ref vb), .unset] [(.int (13 : Int32)), (.int (17 : Int32))])) t → Steps p.tables e below (s₁.setTop (entryFrame m #[(.ref va), (.ref vb)] 3)) t := fun t kt => by
    refine pre410 _ ?_
    refine X0.arraylength hx (by rw [e0]; exact Ar_vb_411.1) (State.isArrayOf_alike hZ.alike Ar_vb_411.2.1) (g := (mkF m 3 #[.val (.ref va), .val (.ref vb), .unset] [(.ref vb), (.int (17 : Int32))])) rfl rfl (hb hby d5_3) _ ?_
    rw [len_of S_vb_411 M_vb_411]
    exact kt
  clear pre410  G_vb_411 H_vb_411 M_vb_411 S_vb_411 q_vb_411 Ar_vb_411
  have pre413 : ∀ t, Steps p.tables e below (s₁.setTop (mkF m 34 #[.val (.ref va), .val (.ref vb), .unset] [])) t → Steps p.tables e below (s₁.setTop (entryFrame m #[(.ref va), (.ref vb)] 3)) t := fun t kt => by
    refine pre411 _ ?_
    show Steps p.tables e below (s₁.setTop (mkF m 4 #[.val (.ref va), .val (.ref vb), .unset] [(.int (13 : Int32)), (.int (17 : Int32))])) _
    refine XS.icmpYes X0.here hx rfl (pc0 := 4) (pc' := 34) rfl (hb hby d5_4) rfl (feq (by decide : ¬ ((17 : Int32) = (13 : Int32)))).2 (by decide) (by decide) ?_
    show Steps p.tables e below (s₁.setTop (mkF m 34 #[.val (.ref va), .val (.ref vb), .unset] [])) _
    exact kt
  have pre414 : ∀ t, Steps p.tables e below (s₁.setTop (mkF m 35 #[.val (.ref va), .val (.ref vb), .unset] [(.int (0 : Int32))])) t → Steps p.tables e below (s₁.setTop (entryFrame m #[(.ref va), (.ref vb)] 3)) t := fun t kt => by
    refine pre413 _ ?_
    show Steps p.tables e below (s₁.setTop (mkF m 34 #[.val (.ref va), .val (.ref vb), .unset] [])) _
    refine XS.iconst X0.here hx rfl (hb hby d5_34) ?_
    show Steps p.tables e below (s₁.setTop (mkF m 35 #[.val (.ref va), .val (.ref vb), .unset] [(.int (0 : Int32))])) _
    exact kt
  obtain ⟨fs, hr, hrun, hended, hW, hsame⟩ := X0.leave (v := some (.int (0 : Int32))) (fun h => by rw [Bd.returns] at h; cases h)
  refine ⟨_, _, pre414 _ ?_, hrun, hended, _, _, rfl, ?_, ⟨_, rfl⟩, hW, hsame.mono (by decide) (by decide)⟩
  · show Steps p.tables e below (s₁.setTop (mkF m 35 #[.val (.ref va), .val (.ref vb), .unset] [(.int (0 : Int32))])) _
    exact retN X0 hx (t := .boolean) Bd.returns (by simp) (hb hby d5_35) hr
  · show Q5_c va vb ka kb h0 n0 _ s₁.heap _
    rw [e0]
    exact ⟨rfl, N0, rfl⟩
theorem d3_0 : decode jdk_42_method_66_code 0 = .ok (.aload_n 0, 1) := by decide +kernel
theorem d3_1 : decode jdk_42_method_66_code 1 = .ok (.aload_n 1, 1) := by decide +kernel
theorem d3_2 : decode jdk_42_method_66_code 2 = .ok (.if_acmp .ne 5, 3) := by decide +kernel
theorem d3_5 : decode jdk_42_method_66_code 5 = .ok (.iconst 1, 1) := by decide +kernel
theorem d3_6 : decode jdk_42_method_66_code 6 = .ok (.ireturn, 1) := by decide +kernel
theorem d3_7 : decode jdk_42_method_66_code 7 = .ok (.aload_n 1, 1) := by decide +kernel
theorem d3_8 : decode jdk_42_method_66_code 8 = .ok (.instanceof 10, 3) := by decide +kernel
theorem d3_11 : decode jdk_42_method_66_code 11 = .ok (.ifCond .eq 43, 3) := by decide +kernel
theorem d3_14 : decode jdk_42_method_66_code 14 = .ok (.aload_n 1, 1) := by decide +kernel
theorem d3_15 : decode jdk_42_method_66_code 15 = .ok (.checkcast 10, 3) := by decide +kernel
theorem d3_18 : decode jdk_42_method_66_code 18 = .ok (.astore_n 2, 1) := by decide +kernel
theorem d3_19 : decode jdk_42_method_66_code 19 = .ok (.getstatic 38, 3) := by decide +kernel
theorem d3_22 : decode jdk_42_method_66_code 22 = .ok (.ifCond .eq 14, 3) := by decide +kernel
theorem d3_25 : decode jdk_42_method_66_code 25 = .ok (.aload_n 0, 1) := by decide +kernel
theorem d3_26 : decode jdk_42_method_66_code 26 = .ok (.getfield 15, 3) := by decide +kernel
theorem d3_29 : decode jdk_42_method_66_code 29 = .ok (.aload_n 2, 1) := by decide +kernel
theorem d3_30 : decode jdk_42_method_66_code 30 = .ok (.getfield 15, 3) := by decide +kernel
theorem d3_33 : decode jdk_42_method_66_code 33 = .ok (.if_icmp .ne 21, 3) := by decide +kernel
theorem d3_36 : decode jdk_42_method_66_code 36 = .ok (.aload_n 0, 1) := by decide +kernel
theorem d3_37 : decode jdk_42_method_66_code 37 = .ok (.getfield 9, 3) := by decide +kernel
theorem d3_40 : decode jdk_42_method_66_code 40 = .ok (.aload_n 2, 1) := by decide +kernel
theorem d3_41 : decode jdk_42_method_66_code 41 = .ok (.getfield 9, 3) := by decide +kernel
theorem d3_44 : decode jdk_42_method_66_code 44 = .ok (.invokestatic 541, 3) := by decide +kernel
theorem d3_47 : decode jdk_42_method_66_code 47 = .ok (.ifCond .eq 7, 3) := by decide +kernel
theorem d3_50 : decode jdk_42_method_66_code 50 = .ok (.iconst 1, 1) := by decide +kernel
theorem d3_51 : decode jdk_42_method_66_code 51 = .ok (.goto 4, 3) := by decide +kernel
theorem d3_54 : decode jdk_42_method_66_code 54 = .ok (.iconst 0, 1) := by decide +kernel
theorem d3_55 : decode jdk_42_method_66_code 55 = .ok (.ireturn, 1) := by decide +kernel
theorem pn_3 : plainName "java/lang/String" = true := by first | (simp [plainName, overriddenIn]; done) | decide +kernel
theorem ef_3 (m : MethodId) (x0 : Addr) (x1 : Addr) : entryFrame m #[(.ref x0), (.ref x1)] 3 = mkF m 0 #[.val (.ref x0), .val (.ref x1), .unset] [] := by first | (simp [entryFrame, mkF, argsToLocals, Value.category]; done) | rfl
def Q3_a (ea eb vea veb : Addr) (kea keb : ClassId) (cs : Int32) (h0 : Heap) (n0 : Nat) (v : Option Value) (h : Heap) (L : List Loc) : Prop := v = some (.int (1 : Int32)) ∧ Fr n0 L ∧ h = h0
set_option maxRecDepth 65536 in
set_option maxHeartbeats 40000000 in
theorem rm3_a (l : Launch) (Z : State) (aZ : Array Value) (hw : ∀ d ∈ tables_1, d.before aZ Z = true) (ws : List Jvm.Cond) (ea eb vea veb : Addr) (kea keb : ClassId) (cs : Int32) (h0 : Heap) (n0 : Nat) (Z0 : n0 ≤ h0.size) (E_b : Exa Z h0 eb "java/lang/String") (C_ea : Fld Z h0 ea "java/lang/String" "coder" "B" (.int (0 : Int32))) (V_ea : Fld Z h0 ea "java/lang/String" "value" "[B" (.ref vea)) (A_ea : Arv Z h0 vea kea .byte (13 : Int32) [(.int (100 : Int32)), (.int (97 : Int32)), (.int (105 : Int32)), (.int (108 : Int32)), (.int (121 : Int32)), (.int (32 : Int32)), (.int (114 : Int32)), (.int (101 : Int32)), (.int (116 : Int32)), (.int (117 : Int32)), (.int (114 : Int32)), (.int (110 : Int32)), (.int (115 : Int32))] (.int (0 : Int32))) (C_eb : Fld Z h0 eb "java/lang/String" "coder" "B" (.int (0 : Int32))) (V_eb : Fld Z h0 eb "java/lang/String" "value" "[B" (.ref veb)) (A_eb : Arv Z h0 veb keb .byte (13 : Int32) [(.int (100 : Int32)), (.int (97 : Int32)), (.int (105 : Int32)), (.int (108 : Int32)), (.int (121 : Int32)), (.int (32 : Int32)), (.int (114 : Int32)), (.int (101 : Int32)), (.int (116 : Int32)), (.int (117 : Int32)), (.int (114 : Int32)), (.int (110 : Int32)), (.int (115 : Int32))] (.int (0 : Int32))) (S_c : Sta Z h0 "java/lang/String" "COMPACT_STRINGS" "Z" (.int cs)) (hcs : ¬ (cs = (0 : Int32))) :
    MetFree l (⟨"java/lang/String", "equals", "(Ljava/lang/Object;)Z"⟩ : MethodName) (head1 (Jvm.Cond.code (⟨"java/lang/String", "equals", "(Ljava/lang/Object;)Z"⟩ : MethodName) jdk_42_method_66_code 3 (some .boolean) :: ws) ({ frames := 1, cells := 0, slots := 0, locals := 14 } : Room)) (fun a U => a = #[(.ref ea), (.ref eb)] ∧ Z.Warmed39 U.vm ∧ U.heap = h0) (fun _ _ _ _ _ => True) (fun _ U oc U' => ∃ v L, oc = .returned v ∧ Q3_a ea eb vea veb kea keb cs h0 n0 v U'.heap L ∧ FrameEnd U oc U' L ({ frames := 1, cells := 0, slots := 0, locals := 14 } : Room).cells ({ frames := 1, cells := 0, slots := 0, locals := 14 } : Room).slots) := by
  refine MetFree.of_bodySF (plainFor_of_name pn_3) hisR ?_
  intro p e s m args below meth c s₁ Bd hml0 hP hK
  obtain ⟨rfl, hZ, hh⟩ := hP
  have hx := Bd.exec
  have hby := Bd.bytes
  have hml : c.maxLocals = 3 := hml0
  have hown : s.vm.findClass "java/lang/String" = some m.cls := findClass_of_methodNamed Bd.named
  have hnm := (name_of_methodNamed Bd.named Bd.method).1
  have X0 : Stand p l e ({ frames := 1, cells := 0, slots := 0, locals := 14 } : Room) s m #[(.ref ea), (.ref eb)] below meth c s₁ [] 0 0 := Stand.of_body Bd
  have e0 : s₁.heap = h0 := by rw [← hh, Bd.state]; rfl
  have N0 := Fr.nil n0
  have pre0 : ∀ t, Steps p.tables e below (s₁.setTop (mkF m 0 #[.val (.ref ea), .val (.ref eb), .unset] [])) t → Steps p.tables e below (s₁.setTop (entryFrame m #[(.ref ea), (.ref eb)] 3)) t := fun t kt => castTop (ef_3 m ea eb) kt
  have pre415 : ∀ t, Steps p.tables e below (s₁.setTop (mkF m 2 #[.val (.ref ea), .val (.ref eb), .unset] [(.ref eb), (.ref ea)])) t → Steps p.tables e below (s₁.setTop (entryFrame m #[(.ref ea), (.ref eb)] 3)) t := fun t kt => by
    refine pre0 _ ?_
    show Steps p.tables e below (s₁.setTop (mkF m 0 #[.val (.ref ea), .val (.ref eb), .unset] [])) _
    refine XS.aloadN X0.here hx rfl (hb hby d3_0) rfl rfl ?_
    show Steps p.tables e below (s₁.setTop (mkF m 1 #[.val (.ref ea), .val (.ref eb), .unset] [(.ref ea)])) _
    refine XS.aloadN X0.here hx rfl (hb hby d3_1) rfl rfl ?_
    show Steps p.tables e below (s₁.setTop (mkF m 2 #[.val (.ref ea), .val (.ref eb), .unset] [(.ref eb), (.ref ea)])) _
    exact kt
  by_cases hab : ea = eb
  · have pre416 : ∀ t, Steps p.tables e below (s₁.setTop (mkF m 5 #[.val (.ref ea), .val (.ref eb), .unset] [])) t → Steps p.tables e below (s₁.setTop (entryFrame m #[(.ref ea), (.ref eb)] 3)) t := fun t kt => pre415 _ (Jvm.RoadKit.acmp (g := (mkF m 2 #[.val (.ref ea), .val (.ref eb), .unset] [(.ref eb), (.ref ea)])) X0 hx rfl rfl rfl (pc0 := 2) (pc' := 5) (same := true) rfl (hb hby d3_2) rfl (decide_eq_true (congrArg Value.ref hab)) (by decide) (by decide) kt)
    have pre417 : ∀ t, Steps p.tables e below (s₁.setTop (mkF m 6 #[.val (.ref ea), .val (.ref eb), .unset] [(.int (1 : Int32))])) t → Steps p.tables e below (s₁.setTop (entryFrame m #[(.ref ea), (.ref eb)] 3)) t := fun t kt => by
      refine pre416 _ ?_
      show Steps p.tables e below (s₁.setTop (mkF m 5 #[.val (.ref ea), .val (.ref eb), .unset] [])) _
      refine XS.iconst X0.here hx rfl (hb hby d3_5) ?_
      show Steps p.tables e below (s₁.setTop (mkF m 6 #[.val (.ref ea), .val (.ref eb), .unset] [(.int (1 : Int32))])) _
      exact kt
    obtain ⟨fs, hr, hrun, hended, hW, hsame⟩ := X0.leave (v := some (.int (1 : Int32))) (fun h => by rw [Bd.returns] at h; cases h)
    refine ⟨_, _, pre417 _ ?_, hrun, hended, _, _, rfl, ?_, ⟨_, rfl⟩, hW, hsame.mono (by decide) (by decide)⟩
    · show Steps p.tables e below (s₁.setTop (mkF m 6 #[.val (.ref ea), .val (.ref eb), .unset] [(.int (1 : Int32))])) _
      exact retN X0 hx (t := .boolean) Bd.returns (by simp) (hb hby d3_6) hr
    · show Q3_a ea eb vea veb kea keb cs h0 n0 _ s₁.heap _
      rw [e0]
      exact ⟨rfl, N0, rfl⟩
  · have pre419 : ∀ t, Steps p.tables e below (s₁.setTop (mkF m 7 #[.val (.ref ea), .val (.ref eb), .unset] [])) t → Steps p.tables e below (s₁.setTop (entryFrame m #[(.ref ea), (.ref eb)] 3)) t := fun t kt => pre415 _ (Jvm.RoadKit.acmp (g := (mkF m 2 #[.val (.ref ea), .val (.ref eb), .unset] [(.ref eb), (.ref ea)])) X0 hx rfl rfl rfl (pc0 := 2) (pc' := 7) (same := false) rfl (hb hby d3_2) rfl (decide_eq_false fun q => hab (Value.ref.inj q)) (by decide) (by decide) kt)
    have pre420 : ∀ t, Steps p.tables e below (s₁.setTop (mkF m 8 #[.val (.ref ea), .val (.ref eb), .unset] [(.ref eb)])) t → Steps p.tables e below (s₁.setTop (entryFrame m #[(.ref ea), (.ref eb)] 3)) t := fun t kt => by
      refine pre419 _ ?_
      show Steps p.tables e below (s₁.setTop (mkF m 7 #[.val (.ref ea), .val (.ref eb), .unset] [])) _
      refine XS.aloadN X0.here hx rfl (hb hby d3_7) rfl rfl ?_
      show Steps p.tables e below (s₁.setTop (mkF m 8 #[.val (.ref ea), .val (.ref eb), .unset] [(.ref eb)])) _
      exact kt
    obtain ⟨T421, X421, e421, st421⟩ := instY X0 hx hZ hown (hw _ (List.mem_of_getElem? (i := 40) rfl)) e0 (Ins.self E_b) (g := (mkF m 8 #[.val (.ref ea), .val (.ref eb), .unset] [(.ref eb)])) rfl rfl (hb hby d3_8)
    have pre421 : ∀ t, Steps p.tables e below (T421.setTop (mkF m 11 #[.val (.ref ea), .val (.ref eb), .unset] [(.int (1 : Int32))])) t → Steps p.tables e below (s₁.setTop (entryFrame m #[(.ref ea), (.ref eb)] 3)) t := fun t kt => pre420 _ (st421 t kt)
    have pre423 : ∀ t, Steps p.tables e below (T421.setTop (mkF m 14 #[.val (.ref ea), .val (.ref eb), .unset] [])) t → Steps p.tables e below (s₁.setTop (entryFrame m #[(.ref ea), (.ref eb)] 3)) t := fun t kt => by
      refine pre421 _ ?_
      show Steps p.tables e below (T421.setTop (mkF m 11 #[.val (.ref ea), .val (.ref eb), .unset] [(.int (1 : Int32))])) _
      refine XS.ifNo X421.here hx rfl (hb hby d3_11) rfl ((if0 _ _).trans (feq (by decide : ¬ ((1 : Int32) = (0 : Int32)))).1) ?_
      show Steps p.tables e below (T421.setTop (mkF m 14 #[.val (.ref ea), .val (.ref eb), .unset] [])) _
      exact kt
    have pre424 : ∀ t, Steps p.tables e below (T421.setTop (mkF m 15 #[.val (.ref ea), .val (.ref eb), .unset] [(.ref eb)])) t → Steps p.tables e below (s₁.setTop (entryFrame m #[(.ref ea), (.ref eb)] 3)) t := fun t kt => by
      refine pre423 _ ?_
      show Steps p.tables e below (T421.setTop (mkF m 14 #[.val (.ref ea), .val (.ref eb), .unset] [])) _
      refine XS.aloadN X421.here hx rfl (hb hby d3_14) rfl rfl ?_
      show Steps p.tables e below (T421.setTop (mkF m 15 #[.val (.ref ea), .val (.ref eb), .unset] [(.ref eb)])) _
      exact kt
    obtain ⟨T425, X425, e425, st425⟩ := castY X421 hx hZ hown (hw _ (List.mem_of_getElem? (i := 40) rfl)) e421 (Ins.self E_b) (g := (mkF m 15 #[.val (.ref ea), .val (.ref eb), .unset] [(.ref eb)])) rfl rfl (hb hby d3_15)
    have pre425 : ∀ t, Steps p.tables e below (T425.setTop (mkF m 18 #[.val (.ref ea), .val (.ref eb), .unset] [(.ref eb)])) t → Steps p.tables e below (s₁.setTop (entryFrame m #[(.ref ea), (.ref eb)] 3)) t := fun t kt => pre424 _ (st425 t kt)
    have pre426 : ∀ t, Steps p.tables e below (T425.setTop (mkF m 19 #[.val (.ref ea), .val (.ref eb), .val (.ref eb)] [])) t → Steps p.tables e below (s₁.setTop (entryFrame m #[(.ref ea), (.ref eb)] 3)) t := fun t kt => by
      refine pre425 _ ?_
      show Steps p.tables e below (T425.setTop (mkF m 18 #[.val (.ref ea), .val (.ref eb), .unset] [(.ref eb)])) _
      refine XS.astoreN X425.here hx rfl (hb hby d3_18) rfl rfl (l' := #[.val (.ref ea), .val (.ref eb), .val (.ref eb)]) rfl ?_
      show Steps p.tables e below (T425.setTop (mkF m 19 #[.val (.ref ea), .val (.ref eb), .val (.ref eb)] [])) _
      exact kt
    obtain ⟨T427, X427, e427, st427⟩ := getS2 X425 hx hZ hown (host := "") (Or.inl (hw _ (List.mem_of_getElem? (i := 42) rfl))) Via.refl e425 S_c (g := (mkF m 19 #[.val (.ref ea), .val (.ref eb), .val (.ref eb)] [])) rfl (hb hby d3_19)
    have pre427 : ∀ t, Steps p.tables e below (T427.setTop (mkF m 22 #[.val (.ref ea), .val (.ref eb), .val (.ref eb)] [(.int cs)])) t → Steps p.tables e below (s₁.setTop (entryFrame m #[(.ref ea), (.ref eb)] 3)) t := fun t kt => pre426 _ (st427 t kt)
    have pre429 : ∀ t, Steps p.tables e below (T427.setTop (mkF m 25 #[.val (.ref ea), .val (.ref eb), .val (.ref eb)] [])) t → Steps p.tables e below (s₁.setTop (entryFrame m #[(.ref ea), (.ref eb)] 3)) t := fun t kt => by
      refine pre427 _ ?_
      show Steps p.tables e below (T427.setTop (mkF m 22 #[.val (.ref ea), .val (.ref eb), .val (.ref eb)] [(.int cs)])) _
      refine XS.ifNo X427.here hx rfl (hb hby d3_22) rfl ((if0 _ _).trans (feq hcs).1) ?_
      show Steps p.tables e below (T427.setTop (mkF m 25 #[.val (.ref ea), .val (.ref eb), .val (.ref eb)] [])) _
      exact kt
    have pre430 : ∀ t, Steps p.tables e below (T427.setTop (mkF m 26 #[.val (.ref ea), .val (.ref eb), .val (.ref eb)] [(.ref ea)])) t → Steps p.tables e below (s₁.setTop (entryFrame m #[(.ref ea), (.ref eb)] 3)) t := fun t kt => by
      refine pre429 _ ?_
      show Steps p.tables e below (T427.setTop (mkF m 25 #[.val (.ref ea), .val (.ref eb), .val (.ref eb)] [])) _
      refine XS.aloadN X427.here hx rfl (hb hby d3_25) rfl rfl ?_
      show Steps p.tables e below (T427.setTop (mkF m 26 #[.val (.ref ea), .val (.ref eb), .val (.ref eb)] [(.ref ea)])) _
      exact kt
    obtain ⟨T431, X431, e431, st431⟩ := getF X427 hx hZ hown (host := "") (Or.inl (hw _ (List.mem_of_getElem? (i := 43) rfl))) Via.refl e427 C_ea (g := (mkF m 26 #[.val (.ref ea), .val (.ref eb), .val (.ref eb)] [(.ref ea)])) rfl rfl (hb hby d3_26)
    have pre431 : ∀ t, Steps p.tables e below (T431.setTop (mkF m 29 #[.val (.ref ea), .val (.ref eb), .val (.ref eb)] [(.int (0 : Int32))])) t → Steps p.tables e below (s₁.setTop (entryFrame m #[(.ref ea), (.ref eb)] 3)) t := fun t kt => pre430 _ (st431 t kt)
    have pre432 : ∀ t, Steps p.tables e below (T431.setTop (mkF m 30 #[.val (.ref ea), .val (.ref eb), .val (.ref eb)] [(.ref eb), (.int (0 : Int32))])) t → Steps p.tables e below (s₁.setTop (entryFrame m #[(.ref ea), (.ref eb)] 3)) t := fun t kt => by
      refine pre431 _ ?_
      show Steps p.tables e below (T431.setTop (mkF m 29 #[.val (.ref ea), .val (.ref eb), .val (.ref eb)] [(.int (0 : Int32))])) _
      refine XS.aloadN X431.here hx rfl (hb hby d3_29) rfl rfl ?_
      show Steps p.tables e below (T431.setTop (mkF m 30 #[.val (.ref ea), .val (.ref eb), .val (.ref eb)] [(.ref eb), (.int (0 : Int32))])) _
      exact kt
    obtain ⟨T433, X433, e433, st433⟩ := getF X431 hx hZ hown (host := "") (Or.inl (hw _ (List.mem_of_getElem? (i := 43) rfl))) Via.refl e431 C_eb (g := (mkF m 30 #[.val (.ref ea), .val (.ref eb), .val (.ref eb)] [(.ref eb), (.int (0 : Int32))])) rfl rfl (hb hby d3_30)
    have pre433 : ∀ t, Steps p.tables e below (T433.setTop (mkF m 33 #[.val (.ref ea), .val (.ref eb), .val (.ref eb)] [(.int (0 : Int32)), (.int (0 : Int32))])) t → Steps p.tables e below (s₁.setTop (entryFrame m #[(.ref ea), (.ref eb)] 3)) t := fun t kt => pre432 _ (st433 t kt)
    have pre435 : ∀ t, Steps p.tables e below (T433.setTop (mkF m 36 #[.val (.ref ea), .val (.ref eb), .val (.ref eb)] [])) t → Steps p.tables e below (s₁.setTop (entryFrame m #[(.ref ea), (.ref eb)] 3)) t := fun t kt => by
      refine pre433 _ ?_
      show Steps p.tables e below (T433.setTop (mkF m 33 #[.val (.ref ea), .val (.ref eb), .val (.ref eb)] [(.int (0 : Int32)), (.int (0 : Int32))])) _
      refine XS.icmpNo X433.here hx rfl (hb hby d3_33) rfl (teq (by decide : (0 : Int32) = (0 : Int32))).2 ?_
      show Steps p.tables e below (T433.setTop (mkF m 36 #[.val (.ref ea), .val (.ref eb), .val (.ref eb)] [])) _
      exact kt
    have pre436 : ∀ t, Steps p.tables e below (T433.setTop (mkF m 37 #[.val (.ref ea), .val (.ref eb), .val (.ref eb)] [(.ref ea)])) t → Steps p.tables e below (s₁.setTop (entryFrame m #[(.ref ea), (.ref eb)] 3)) t := fun t kt => by
      refine pre435 _ ?_
      show Steps p.tables e below (T433.setTop (mkF m 36 #[.val (.ref ea), .val (.ref eb), .val (.ref eb)] [])) _
      refine XS.aloadN X433.here hx rfl (hb hby d3_36) rfl rfl ?_
      show Steps p.tables e below (T433.setTop (mkF m 37 #[.val (.ref ea), .val (.ref eb), .val (.ref eb)] [(.ref ea)])) _
      exact kt
    obtain ⟨T437, X437, e437, st437⟩ := getF X433 hx hZ hown (host := "") (Or.inl (hw _ (List.mem_of_getElem? (i := 44) rfl))) Via.refl e433 V_ea (g := (mkF m 37 #[.val (.ref ea), .val (.ref eb), .val (.ref eb)] [(.ref ea)])) rfl rfl (hb hby d3_37)
    have pre437 : ∀ t, Steps p.tables e below (T437.setTop (mkF m 40 #[.val (.ref ea), .val (.ref eb), .val (.ref eb)] [(.ref vea)])) t → Steps p.tables e below (s₁.setTop (entryFrame m #[(.ref ea), (.ref eb)] 3)) t := fun t kt => pre436 _ (st437 t kt)
    have pre438 : ∀ t, Steps p.tables e below (T437.setTop (mkF m 41 #[.val (.ref ea), .val (.ref eb), .val (.ref eb)] [(.ref eb), (.ref vea)])) t → Steps p.tables e below (s₁.setTop (entryFrame m #[(.ref ea), (.ref eb)] 3)) t := fun t kt => by
      refine pre437 _ ?_
      show Steps p.tables e below (T437.setTop (mkF m 40 #[.val (.ref ea), .val (.ref eb), .val (.ref eb)] [(.ref vea)])) _
      refine XS.aloadN X437.here hx rfl (hb hby d3_40) rfl rfl ?_
      show Steps p.tables e below (T437.setTop (mkF m 41 #[.val (.ref ea), .val (.ref eb), .val (.ref eb)] [(.ref eb), (.ref vea)])) _
      exact kt
    obtain ⟨T439, X439, e439, st439⟩ := getF X437 hx hZ hown (host := "") (Or.inl (hw _ (List.mem_of_getElem? (i := 44) rfl))) Via.refl e437 V_eb (g := (mkF m 41 #[.val (.ref ea), .val (.ref eb), .val (.ref eb)] [(.ref eb), (.ref vea)])) rfl rfl (hb hby d3_41)
    have pre439 : ∀ t, Steps p.tables e below (T439.setTop (mkF m 44 #[.val (.ref ea), .val (.ref eb), .val (.ref eb)] [(.ref veb), (.ref vea)])) t → Steps p.tables e below (s₁.setTop (entryFrame m #[(.ref ea), (.ref eb)] 3)) t := fun t kt => pre438 _ (st439 t kt)
    obtain ⟨v441, _, ⟨T441, L441, k441, n441⟩, -, X441, ⟨Lc441, hQ441, l441, y441, z441⟩, st441⟩ := Jvm.LawKit.callS X439 hx (y := (⟨"java/lang/StringLatin1", "equals", "([B[B)Z"⟩ : MethodName)) hown (mvT hZ (hw _ (List.mem_of_getElem? (i := 45) rfl))) (mvT hZ (hw _ (List.mem_of_getElem? (i := 46) rfl))) (mvT hZ (hw _ (List.mem_of_getElem? (i := 47) rfl))) (mvT hZ (hw _ (List.mem_of_getElem? (i := 48) rfl))) (by decide) (backOf (W := 0) (rm5_a l Z aZ hw [] vea veb kea keb  h0 n0 Z0 A_ea A_eb) hZ (hw _ (List.mem_of_getElem? (i := 48) rfl)) (hw _ (List.mem_of_getElem? (i := 47) rfl)) (by decide) (by decide)) (g := (mkF m 44 #[.val (.ref ea), .val (.ref eb), .val (.ref eb)] [(.ref veb), (.ref vea)])) rfl (by rw [hml]; rfl) (argsL := [(.ref vea), (.ref veb)]) (rest := []) (lenOf pd_4 rfl) rfl (by show 2 * 0 + _ ≤ _; exact Nat.le_of_eq rfl) (hb hby d3_44) (fun _ _ => ⟨rfl, e439, (by decide : 0 + 0 ≤ _), (by decide : 0 + 0 ≤ _)⟩)
    dsimp only [Pt.U, Pt.locs, Pt.cells, Pt.slots] at X441 l441 y441 z441 st441 hQ441
    rw [l441, y441, z441] at X441
    clear l441 y441 z441
    obtain ⟨vq441, N441q, e441⟩ := hQ441
    rw [vq441] at st441
    have N441 := Fr.app N0 N441q
    have pre441 : ∀ t, Steps p.tables e below (T441.setTop (mkF m 47 #[.val (.ref ea), .val (.ref eb), .val (.ref eb)] [(.int (1 : Int32))])) t → Steps p.tables e below (s₁.setTop (entryFrame m #[(.ref ea), (.ref eb)] 3)) t := fun t kt => pre439 _ (st441 t kt)
    have pre443 : ∀ t, Steps p.tables e below (T441.setTop (mkF m 50 #[.val (.ref ea), .val (.ref eb), .val (.ref eb)] [])) t → Steps p.tables e below (s₁.setTop (entryFrame m #[(.ref ea), (.ref eb)] 3)) t := fun t kt => by
      refine pre441 _ ?_
      show Steps p.tables e below (T441.setTop (mkF m 47 #[.val (.ref ea), .val (.ref eb), .val (.ref eb)] [(.int (1 : Int32))])) _
      refine XS.ifNo X441.here hx rfl (hb hby d3_47) rfl ((if0 _ _).trans (feq (by decide : ¬ ((1 : Int32) = (0 : Int32)))).1) ?_
      show Steps p.tables e below (T441.setTop (mkF m 50 #[.val (.ref ea), .val (.ref eb), .val (.ref eb)] [])) _
      exact kt
    have pre444 : ∀ t, Steps p.tables e below (T441.setTop (mkF m 55 #[.val (.ref ea), .val (.ref eb), .val (.ref eb)] [(.int (1 : Int32))])) t → Steps p.tables e below (s₁.setTop (entryFrame m #[(.ref ea), (.ref eb)] 3)) t := fun t kt => by
      refine pre443 _ ?_
      show Steps p.tables e below (T441.setTop (mkF m 50 #[.val (.ref ea), .val (.ref eb), .val (.ref eb)] [])) _
      refine XS.iconst X441.here hx rfl (hb hby d3_50) ?_
      show Steps p.tables e below (T441.setTop (mkF m 51 #[.val (.ref ea), .val (.ref eb), .val (.ref eb)] [(.int (1 : Int32))])) _
      refine XS.goto X441.here hx rfl (pc0 := 51) (pc' := 55) rfl (hb hby d3_51) (by decide) (by decide) ?_
      show Steps p.tables e below (T441.setTop (mkF m 55 #[.val (.ref ea), .val (.ref eb), .val (.ref eb)] [(.int (1 : Int32))])) _
      exact kt
    obtain ⟨fs, hr, hrun, hended, hW, hsame⟩ := X441.leave (v := some (.int (1 : Int32))) (fun h => by rw [Bd.returns] at h; cases h)
    refine ⟨_, _, pre444 _ ?_, hrun, hended, _, _, rfl, ?_, ⟨_, rfl⟩, hW, hsame.mono (by decide) (by decide)⟩
    · show Steps p.tables e below (T441.setTop (mkF m 55 #[.val (.ref ea), .val (.ref eb), .val (.ref eb)] [(.int (1 : Int32))])) _
      exact retN X441 hx (t := .boolean) Bd.returns (by simp) (hb hby d3_55) hr
    · show Q3_a ea eb vea veb kea keb cs h0 n0 _ T441.heap _
      rw [e441]
      exact ⟨rfl, N441, rfl⟩
def Q3_b (ea eb vea veb : Addr) (kea keb : ClassId) (cs : Int32) (h0 : Heap) (n0 : Nat) (v : Option Value) (h : Heap) (L : List Loc) : Prop := v = some (.int (1 : Int32)) ∧ Fr n0 L ∧ h = h0
set_option maxRecDepth 65536 in
set_option maxHeartbeats 40000000 in
theorem rm3_b (l : Launch) (Z : State) (aZ : Array Value) (hw : ∀ d ∈ tables_1, d.before aZ Z = true) (ws : List Jvm.Cond) (ea eb vea veb : Addr) (kea keb : ClassId) (cs : Int32) (h0 : Heap) (n0 : Nat) (Z0 : n0 ≤ h0.size) (E_b : Exa Z h0 eb "java/lang/String") (C_ea : Fld Z h0 ea "java/lang/String" "coder" "B" (.int (0 : Int32))) (V_ea : Fld Z h0 ea "java/lang/String" "value" "[B" (.ref vea)) (A_ea : Arv Z h0 vea kea .byte (17 : Int32) [(.int (100 : Int32)), (.int (97 : Int32)), (.int (105 : Int32)), (.int (108 : Int32)), (.int (121 : Int32)), (.int (32 : Int32)), (.int (80 : Int32)), (.int (38 : Int32)), (.int (76 : Int32)), (.int (32 : Int32)), (.int (97 : Int32)), (.int (109 : Int32)), (.int (111 : Int32)), (.int (117 : Int32)), (.int (110 : Int32)), (.int (116 : Int32)), (.int (115 : Int32))] (.int (0 : Int32))) (C_eb : Fld Z h0 eb "java/lang/String" "coder" "B" (.int (0 : Int32))) (V_eb : Fld Z h0 eb "java/lang/String" "value" "[B" (.ref veb)) (A_eb : Arv Z h0 veb keb .byte (17 : Int32) [(.int (100 : Int32)), (.int (97 : Int32)), (.int (105 : Int32)), (.int (108 : Int32)), (.int (121 : Int32)), (.int (32 : Int32)), (.int (80 : Int32)), (.int (38 : Int32)), (.int (76 : Int32)), (.int (32 : Int32)), (.int (97 : Int32)), (.int (109 : Int32)), (.int (111 : Int32)), (.int (117 : Int32)), (.int (110 : Int32)), (.int (116 : Int32)), (.int (115 : Int32))] (.int (0 : Int32))) (S_c : Sta Z h0 "java/lang/String" "COMPACT_STRINGS" "Z" (.int cs)) (hcs : ¬ (cs = (0 : Int32))) :
    MetFree l (⟨"java/lang/String", "equals", "(Ljava/lang/Object;)Z"⟩ : MethodName) (head1 (Jvm.Cond.code (⟨"java/lang/String", "equals", "(Ljava/lang/Object;)Z"⟩ : MethodName) jdk_42_method_66_code 3 (some .boolean) :: ws) ({ frames := 1, cells := 0, slots := 0, locals := 14 } : Room)) (fun a U => a = #[(.ref ea), (.ref eb)] ∧ Z.Warmed39 U.vm ∧ U.heap = h0) (fun _ _ _ _ _ => True) (fun _ U oc U' => ∃ v L, oc = .returned v ∧ Q3_b ea eb vea veb kea keb cs h0 n0 v U'.heap L ∧ FrameEnd U oc U' L ({ frames := 1, cells := 0, slots := 0, locals := 14 } : Room).cells ({ frames := 1, cells := 0, slots := 0, locals := 14 } : Room).slots) := by
  refine MetFree.of_bodySF (plainFor_of_name pn_3) hisR ?_
  intro p e s m args below meth c s₁ Bd hml0 hP hK
  obtain ⟨rfl, hZ, hh⟩ := hP
  have hx := Bd.exec
  have hby := Bd.bytes
  have hml : c.maxLocals = 3 := hml0
  have hown : s.vm.findClass "java/lang/String" = some m.cls := findClass_of_methodNamed Bd.named
  have hnm := (name_of_methodNamed Bd.named Bd.method).1
  have X0 : Stand p l e ({ frames := 1, cells := 0, slots := 0, locals := 14 } : Room) s m #[(.ref ea), (.ref eb)] below meth c s₁ [] 0 0 := Stand.of_body Bd
  have e0 : s₁.heap = h0 := by rw [← hh, Bd.state]; rfl
  have N0 := Fr.nil n0
  have pre0 : ∀ t, Steps p.tables e below (s₁.setTop (mkF m 0 #[.val (.ref ea), .val (.ref eb), .unset] [])) t → Steps p.tables e below (s₁.setTop (entryFrame m #[(.ref ea), (.ref eb)] 3)) t := fun t kt => castTop (ef_3 m ea eb) kt
  have pre445 : ∀ t, Steps p.tables e below (s₁.setTop (mkF m 2 #[.val (.ref ea), .val (.ref eb), .unset] [(.ref eb), (.ref ea)])) t → Steps p.tables e below (s₁.setTop (entryFrame m #[(.ref ea), (.ref eb)] 3)) t := fun t kt => by
    refine pre0 _ ?_
    show Steps p.tables e below (s₁.setTop (mkF m 0 #[.val (.ref ea), .val (.ref eb), .unset] [])) _
    refine XS.aloadN X0.here hx rfl (hb hby d3_0) rfl rfl ?_
    show Steps p.tables e below (s₁.setTop (mkF m 1 #[.val (.ref ea), .val (.ref eb), .unset] [(.ref ea)])) _
    refine XS.aloadN X0.here hx rfl (hb hby d3_1) rfl rfl ?_
    show Steps p.tables e below (s₁.setTop (mkF m 2 #[.val (.ref ea), .val (.ref eb), .unset] [(.ref eb), (.ref ea)])) _
    exact kt
  by_cases hab : ea = eb
  · have pre446 : ∀ t, Steps p.tables e below (s₁.setTop (mkF m 5 #[.val (.ref ea), .val (.ref eb), .unset] [])) t → Steps p.tables e below (s₁.setTop (entryFrame m #[(.ref ea), (.ref eb)] 3)) t := fun t kt => pre445 _ (Jvm.RoadKit.acmp (g := (mkF m 2 #[.val (.ref ea), .val (.ref eb), .unset] [(.ref eb), (.ref ea)])) X0 hx rfl rfl rfl (pc0 := 2) (pc' := 5) (same := true) rfl (hb hby d3_2) rfl (decide_eq_true (congrArg Value.ref hab)) (by decide) (by decide) kt)
    have pre447 : ∀ t, Steps p.tables e below (s₁.setTop (mkF m 6 #[.val (.ref ea), .val (.ref eb), .unset] [(.int (1 : Int32))])) t → Steps p.tables e below (s₁.setTop (entryFrame m #[(.ref ea), (.ref eb)] 3)) t := fun t kt => by
      refine pre446 _ ?_
      show Steps p.tables e below (s₁.setTop (mkF m 5 #[.val (.ref ea), .val (.ref eb), .unset] [])) _
      refine XS.iconst X0.here hx rfl (hb hby d3_5) ?_
      show Steps p.tables e below (s₁.setTop (mkF m 6 #[.val (.ref ea), .val (.ref eb), .unset] [(.int (1 : Int32))])) _
      exact kt
    obtain ⟨fs, hr, hrun, hended, hW, hsame⟩ := X0.leave (v := some (.int (1 : Int32))) (fun h => by rw [Bd.returns] at h; cases h)
    refine ⟨_, _, pre447 _ ?_, hrun, hended, _, _, rfl, ?_, ⟨_, rfl⟩, hW, hsame.mono (by decide) (by decide)⟩
    · show Steps p.tables e below (s₁.setTop (mkF m 6 #[.val (.ref ea), .val (.ref eb), .unset] [(.int (1 : Int32))])) _
      exact retN X0 hx (t := .boolean) Bd.returns (by simp) (hb hby d3_6) hr
    · show Q3_b ea eb vea veb kea keb cs h0 n0 _ s₁.heap _
      rw [e0]
      exact ⟨rfl, N0, rfl⟩
  · have pre449 : ∀ t, Steps p.tables e below (s₁.setTop (mkF m 7 #[.val (.ref ea), .val (.ref eb), .unset] [])) t → Steps p.tables e below (s₁.setTop (entryFrame m #[(.ref ea), (.ref eb)] 3)) t := fun t kt => pre445 _ (Jvm.RoadKit.acmp (g := (mkF m 2 #[.val (.ref ea), .val (.ref eb), .unset] [(.ref eb), (.ref ea)])) X0 hx rfl rfl rfl (pc0 := 2) (pc' := 7) (same := false) rfl (hb hby d3_2) rfl (decide_eq_false fun q => hab (Value.ref.inj q)) (by decide) (by decide) kt)
    have pre450 : ∀ t, Steps p.tables e below (s₁.setTop (mkF m 8 #[.val (.ref ea), .val (.ref eb), .unset] [(.ref eb)])) t → Steps p.tables e below (s₁.setTop (entryFrame m #[(.ref ea), (.ref eb)] 3)) t := fun t kt => by
      refine pre449 _ ?_
      show Steps p.tables e below (s₁.setTop (mkF m 7 #[.val (.ref ea), .val (.ref eb), .unset] [])) _
      refine XS.aloadN X0.here hx rfl (hb hby d3_7) rfl rfl ?_
      show Steps p.tables e below (s₁.setTop (mkF m 8 #[.val (.ref ea), .val (.ref eb), .unset] [(.ref eb)])) _
      exact kt
    obtain ⟨T451, X451, e451, st451⟩ := instY X0 hx hZ hown (hw _ (List.mem_of_getElem? (i := 40) rfl)) e0 (Ins.self E_b) (g := (mkF m 8 #[.val (.ref ea), .val (.ref eb), .unset] [(.ref eb)])) rfl rfl (hb hby d3_8)
    have pre451 : ∀ t, Steps p.tables e below (T451.setTop (mkF m 11 #[.val (.ref ea), .val (.ref eb), .unset] [(.int (1 : Int32))])) t → Steps p.tables e below (s₁.setTop (entryFrame m #[(.ref ea), (.ref eb)] 3)) t := fun t kt => pre450 _ (st451 t kt)
    have pre453 : ∀ t, Steps p.tables e below (T451.setTop (mkF m 14 #[.val (.ref ea), .val (.ref eb), .unset] [])) t → Steps p.tables e below (s₁.setTop (entryFrame m #[(.ref ea), (.ref eb)] 3)) t := fun t kt => by
      refine pre451 _ ?_
      show Steps p.tables e below (T451.setTop (mkF m 11 #[.val (.ref ea), .val (.ref eb), .unset] [(.int (1 : Int32))])) _
      refine XS.ifNo X451.here hx rfl (hb hby d3_11) rfl ((if0 _ _).trans (feq (by decide : ¬ ((1 : Int32) = (0 : Int32)))).1) ?_
      show Steps p.tables e below (T451.setTop (mkF m 14 #[.val (.ref ea), .val (.ref eb), .unset] [])) _
      exact kt
    have pre454 : ∀ t, Steps p.tables e below (T451.setTop (mkF m 15 #[.val (.ref ea), .val (.ref eb), .unset] [(.ref eb)])) t → Steps p.tables e below (s₁.setTop (entryFrame m #[(.ref ea), (.ref eb)] 3)) t := fun t kt => by
      refine pre453 _ ?_
      show Steps p.tables e below (T451.setTop (mkF m 14 #[.val (.ref ea), .val (.ref eb), .unset] [])) _
      refine XS.aloadN X451.here hx rfl (hb hby d3_14) rfl rfl ?_
      show Steps p.tables e below (T451.setTop (mkF m 15 #[.val (.ref ea), .val (.ref eb), .unset] [(.ref eb)])) _
      exact kt
    obtain ⟨T455, X455, e455, st455⟩ := castY X451 hx hZ hown (hw _ (List.mem_of_getElem? (i := 40) rfl)) e451 (Ins.self E_b) (g := (mkF m 15 #[.val (.ref ea), .val (.ref eb), .unset] [(.ref eb)])) rfl rfl (hb hby d3_15)
    have pre455 : ∀ t, Steps p.tables e below (T455.setTop (mkF m 18 #[.val (.ref ea), .val (.ref eb), .unset] [(.ref eb)])) t → Steps p.tables e below (s₁.setTop (entryFrame m #[(.ref ea), (.ref eb)] 3)) t := fun t kt => pre454 _ (st455 t kt)
    have pre456 : ∀ t, Steps p.tables e below (T455.setTop (mkF m 19 #[.val (.ref ea), .val (.ref eb), .val (.ref eb)] [])) t → Steps p.tables e below (s₁.setTop (entryFrame m #[(.ref ea), (.ref eb)] 3)) t := fun t kt => by
      refine pre455 _ ?_
      show Steps p.tables e below (T455.setTop (mkF m 18 #[.val (.ref ea), .val (.ref eb), .unset] [(.ref eb)])) _
      refine XS.astoreN X455.here hx rfl (hb hby d3_18) rfl rfl (l' := #[.val (.ref ea), .val (.ref eb), .val (.ref eb)]) rfl ?_
      show Steps p.tables e below (T455.setTop (mkF m 19 #[.val (.ref ea), .val (.ref eb), .val (.ref eb)] [])) _
      exact kt
    obtain ⟨T457, X457, e457, st457⟩ := getS2 X455 hx hZ hown (host := "") (Or.inl (hw _ (List.mem_of_getElem? (i := 42) rfl))) Via.refl e455 S_c (g := (mkF m 19 #[.val (.ref ea), .val (.ref eb), .val (.ref eb)] [])) rfl (hb hby d3_19)
    have pre457 : ∀ t, Steps p.tables e below (T457.setTop (mkF m 22 #[.val (.ref ea), .val (.ref eb), .val (.ref eb)] [(.int cs)])) t → Steps p.tables e below (s₁.setTop (entryFrame m #[(.ref ea), (.ref eb)] 3)) t := fun t kt => pre456 _ (st457 t kt)
    have pre459 : ∀ t, Steps p.tables e below (T457.setTop (mkF m 25 #[.val (.ref ea), .val (.ref eb), .val (.ref eb)] [])) t → Steps p.tables e below (s₁.setTop (entryFrame m #[(.ref ea), (.ref eb)] 3)) t := fun t kt => by
      refine pre457 _ ?_
      show Steps p.tables e below (T457.setTop (mkF m 22 #[.val (.ref ea), .val (.ref eb), .val (.ref eb)] [(.int cs)])) _
      refine XS.ifNo X457.here hx rfl (hb hby d3_22) rfl ((if0 _ _).trans (feq hcs).1) ?_
      show Steps p.tables e below (T457.setTop (mkF m 25 #[.val (.ref ea), .val (.ref eb), .val (.ref eb)] [])) _
      exact kt
    have pre460 : ∀ t, Steps p.tables e below (T457.setTop (mkF m 26 #[.val (.ref ea), .val (.ref eb), .val (.ref eb)] [(.ref ea)])) t → Steps p.tables e below (s₁.setTop (entryFrame m #[(.ref ea), (.ref eb)] 3)) t := fun t kt => by
      refine pre459 _ ?_
      show Steps p.tables e below (T457.setTop (mkF m 25 #[.val (.ref ea), .val (.ref eb), .val (.ref eb)] [])) _
      refine XS.aloadN X457.here hx rfl (hb hby d3_25) rfl rfl ?_
      show Steps p.tables e below (T457.setTop (mkF m 26 #[.val (.ref ea), .val (.ref eb), .val (.ref eb)] [(.ref ea)])) _
      exact kt
    obtain ⟨T461, X461, e461, st461⟩ := getF X457 hx hZ hown (host := "") (Or.inl (hw _ (List.mem_of_getElem? (i := 43) rfl))) Via.refl e457 C_ea (g := (mkF m 26 #[.val (.ref ea), .val (.ref eb), .val (.ref eb)] [(.ref ea)])) rfl rfl (hb hby d3_26)
    have pre461 : ∀ t, Steps p.tables e below (T461.setTop (mkF m 29 #[.val (.ref ea), .val (.ref eb), .val (.ref eb)] [(.int (0 : Int32))])) t → Steps p.tables e below (s₁.setTop (entryFrame m #[(.ref ea), (.ref eb)] 3)) t := fun t kt => pre460 _ (st461 t kt)
    have pre462 : ∀ t, Steps p.tables e below (T461.setTop (mkF m 30 #[.val (.ref ea), .val (.ref eb), .val (.ref eb)] [(.ref eb), (.int (0 : Int32))])) t → Steps p.tables e below (s₁.setTop (entryFrame m #[(.ref ea), (.ref eb)] 3)) t := fun t kt => by
      refine pre461 _ ?_
      show Steps p.tables e below (T461.setTop (mkF m 29 #[.val (.ref ea), .val (.ref eb), .val (.ref eb)] [(.int (0 : Int32))])) _
      refine XS.aloadN X461.here hx rfl (hb hby d3_29) rfl rfl ?_
      show Steps p.tables e below (T461.setTop (mkF m 30 #[.val (.ref ea), .val (.ref eb), .val (.ref eb)] [(.ref eb), (.int (0 : Int32))])) _
      exact kt
    obtain ⟨T463, X463, e463, st463⟩ := getF X461 hx hZ hown (host := "") (Or.inl (hw _ (List.mem_of_getElem? (i := 43) rfl))) Via.refl e461 C_eb (g := (mkF m 30 #[.val (.ref ea), .val (.ref eb), .val (.ref eb)] [(.ref eb), (.int (0 : Int32))])) rfl rfl (hb hby d3_30)
    have pre463 : ∀ t, Steps p.tables e below (T463.setTop (mkF m 33 #[.val (.ref ea), .val (.ref eb), .val (.ref eb)] [(.int (0 : Int32)), (.int (0 : Int32))])) t → Steps p.tables e below (s₁.setTop (entryFrame m #[(.ref ea), (.ref eb)] 3)) t := fun t kt => pre462 _ (st463 t kt)
    have pre465 : ∀ t, Steps p.tables e below (T463.setTop (mkF m 36 #[.val (.ref ea), .val (.ref eb), .val (.ref eb)] [])) t → Steps p.tables e below (s₁.setTop (entryFrame m #[(.ref ea), (.ref eb)] 3)) t := fun t kt => by
      refine pre463 _ ?_
      show Steps p.tables e below (T463.setTop (mkF m 33 #[.val (.ref ea), .val (.ref eb), .val (.ref eb)] [(.int (0 : Int32)), (.int (0 : Int32))])) _
      refine XS.icmpNo X463.here hx rfl (hb hby d3_33) rfl (teq (by decide : (0 : Int32) = (0 : Int32))).2 ?_
      show Steps p.tables e below (T463.setTop (mkF m 36 #[.val (.ref ea), .val (.ref eb), .val (.ref eb)] [])) _
      exact kt
    have pre466 : ∀ t, Steps p.tables e below (T463.setTop (mkF m 37 #[.val (.ref ea), .val (.ref eb), .val (.ref eb)] [(.ref ea)])) t → Steps p.tables e below (s₁.setTop (entryFrame m #[(.ref ea), (.ref eb)] 3)) t := fun t kt => by
      refine pre465 _ ?_
      show Steps p.tables e below (T463.setTop (mkF m 36 #[.val (.ref ea), .val (.ref eb), .val (.ref eb)] [])) _
      refine XS.aloadN X463.here hx rfl (hb hby d3_36) rfl rfl ?_
      show Steps p.tables e below (T463.setTop (mkF m 37 #[.val (.ref ea), .val (.ref eb), .val (.ref eb)] [(.ref ea)])) _
      exact kt
    obtain ⟨T467, X467, e467, st467⟩ := getF X463 hx hZ hown (host := "") (Or.inl (hw _ (List.mem_of_getElem? (i := 44) rfl))) Via.refl e463 V_ea (g := (mkF m 37 #[.val (.ref ea), .val (.ref eb), .val (.ref eb)] [(.ref ea)])) rfl rfl (hb hby d3_37)
    have pre467 : ∀ t, Steps p.tables e below (T467.setTop (mkF m 40 #[.val (.ref ea), .val (.ref eb), .val (.ref eb)] [(.ref vea)])) t → Steps p.tables e below (s₁.setTop (entryFrame m #[(.ref ea), (.ref eb)] 3)) t := fun t kt => pre466 _ (st467 t kt)
    have pre468 : ∀ t, Steps p.tables e below (T467.setTop (mkF m 41 #[.val (.ref ea), .val (.ref eb), .val (.ref eb)] [(.ref eb), (.ref vea)])) t → Steps p.tables e below (s₁.setTop (entryFrame m #[(.ref ea), (.ref eb)] 3)) t := fun t kt => by
      refine pre467 _ ?_
      show Steps p.tables e below (T467.setTop (mkF m 40 #[.val (.ref ea), .val (.ref eb), .val (.ref eb)] [(.ref vea)])) _
      refine XS.aloadN X467.here hx rfl (hb hby d3_40) rfl rfl ?_
      show Steps p.tables e below (T467.setTop (mkF m 41 #[.val (.ref ea), .val (.ref eb), .val (.ref eb)] [(.ref eb), (.ref vea)])) _
      exact kt
    obtain ⟨T469, X469, e469, st469⟩ := getF X467 hx hZ hown (host := "") (Or.inl (hw _ (List.mem_of_getElem? (i := 44) rfl))) Via.refl e467 V_eb (g := (mkF m 41 #[.val (.ref ea), .val (.ref eb), .val (.ref eb)] [(.ref eb), (.ref vea)])) rfl rfl (hb hby d3_41)
    have pre469 : ∀ t, Steps p.tables e below (T469.setTop (mkF m 44 #[.val (.ref ea), .val (.ref eb), .val (.ref eb)] [(.ref veb), (.ref vea)])) t → Steps p.tables e below (s₁.setTop (entryFrame m #[(.ref ea), (.ref eb)] 3)) t := fun t kt => pre468 _ (st469 t kt)
    obtain ⟨v471, _, ⟨T471, L471, k471, n471⟩, -, X471, ⟨Lc471, hQ471, l471, y471, z471⟩, st471⟩ := Jvm.LawKit.callS X469 hx (y := (⟨"java/lang/StringLatin1", "equals", "([B[B)Z"⟩ : MethodName)) hown (mvT hZ (hw _ (List.mem_of_getElem? (i := 45) rfl))) (mvT hZ (hw _ (List.mem_of_getElem? (i := 46) rfl))) (mvT hZ (hw _ (List.mem_of_getElem? (i := 47) rfl))) (mvT hZ (hw _ (List.mem_of_getElem? (i := 48) rfl))) (by decide) (backOf (W := 0) (rm5_b l Z aZ hw [] vea veb kea keb  h0 n0 Z0 A_ea A_eb) hZ (hw _ (List.mem_of_getElem? (i := 48) rfl)) (hw _ (List.mem_of_getElem? (i := 47) rfl)) (by decide) (by decide)) (g := (mkF m 44 #[.val (.ref ea), .val (.ref eb), .val (.ref eb)] [(.ref veb), (.ref vea)])) rfl (by rw [hml]; rfl) (argsL := [(.ref vea), (.ref veb)]) (rest := []) (lenOf pd_4 rfl) rfl (by show 2 * 0 + _ ≤ _; exact Nat.le_of_eq rfl) (hb hby d3_44) (fun _ _ => ⟨rfl, e469, (by decide : 0 + 0 ≤ _), (by decide : 0 + 0 ≤ _)⟩)
    dsimp only [Pt.U, Pt.locs, Pt.cells, Pt.slots] at X471 l471 y471 z471 st471 hQ471
    rw [l471, y471, z471] at X471
    clear l471 y471 z471
    obtain ⟨vq471, N471q, e471⟩ := hQ471
    rw [vq471] at st471
    have N471 := Fr.app N0 N471q
    have pre471 : ∀ t, Steps p.tables e below (T471.setTop (mkF m 47 #[.val (.ref ea), .val (.ref eb), .val (.ref eb)] [(.int (1 : Int32))])) t → Steps p.tables e below (s₁.setTop (entryFrame m #[(.ref ea), (.ref eb)] 3)) t := fun t kt => pre469 _ (st471 t kt)
    have pre473 : ∀ t, Steps p.tables e below (T471.setTop (mkF m 50 #[.val (.ref ea), .val (.ref eb), .val (.ref eb)] [])) t → Steps p.tables e below (s₁.setTop (entryFrame m #[(.ref ea), (.ref eb)] 3)) t := fun t kt => by
      refine pre471 _ ?_
      show Steps p.tables e below (T471.setTop (mkF m 47 #[.val (.ref ea), .val (.ref eb), .val (.ref eb)] [(.int (1 : Int32))])) _
      refine XS.ifNo X471.here hx rfl (hb hby d3_47) rfl ((if0 _ _).trans (feq (by decide : ¬ ((1 : Int32) = (0 : Int32)))).1) ?_
      show Steps p.tables e below (T471.setTop (mkF m 50 #[.val (.ref ea), .val (.ref eb), .val (.ref eb)] [])) _
      exact kt
    have pre474 : ∀ t, Steps p.tables e below (T471.setTop (mkF m 55 #[.val (.ref ea), .val (.ref eb), .val (.ref eb)] [(.int (1 : Int32))])) t → Steps p.tables e below (s₁.setTop (entryFrame m #[(.ref ea), (.ref eb)] 3)) t := fun t kt => by
      refine pre473 _ ?_
      show Steps p.tables e below (T471.setTop (mkF m 50 #[.val (.ref ea), .val (.ref eb), .val (.ref eb)] [])) _
      refine XS.iconst X471.here hx rfl (hb hby d3_50) ?_
      show Steps p.tables e below (T471.setTop (mkF m 51 #[.val (.ref ea), .val (.ref eb), .val (.ref eb)] [(.int (1 : Int32))])) _
      refine XS.goto X471.here hx rfl (pc0 := 51) (pc' := 55) rfl (hb hby d3_51) (by decide) (by decide) ?_
      show Steps p.tables e below (T471.setTop (mkF m 55 #[.val (.ref ea), .val (.ref eb), .val (.ref eb)] [(.int (1 : Int32))])) _
      exact kt
    obtain ⟨fs, hr, hrun, hended, hW, hsame⟩ := X471.leave (v := some (.int (1 : Int32))) (fun h => by rw [Bd.returns] at h; cases h)
    refine ⟨_, _, pre474 _ ?_, hrun, hended, _, _, rfl, ?_, ⟨_, rfl⟩, hW, hsame.mono (by decide) (by decide)⟩
    · show Steps p.tables e below (T471.setTop (mkF m 55 #[.val (.ref ea), .val (.ref eb), .val (.ref eb)] [(.int (1 : Int32))])) _
      exact retN X471 hx (t := .boolean) Bd.returns (by simp) (hb hby d3_55) hr
    · show Q3_b ea eb vea veb kea keb cs h0 n0 _ T471.heap _
      rw [e471]
      exact ⟨rfl, N471, rfl⟩
def Q3_c (ea eb vea veb : Addr) (kea keb : ClassId) (cs : Int32) (h0 : Heap) (n0 : Nat) (v : Option Value) (h : Heap) (L : List Loc) : Prop := v = some (.int (0 : Int32)) ∧ Fr n0 L ∧ h = h0
set_option maxRecDepth 65536 in
set_option maxHeartbeats 40000000 in
theorem rm3_c (l : Launch) (Z : State) (aZ : Array Value) (hw : ∀ d ∈ tables_1, d.before aZ Z = true) (ws : List Jvm.Cond) (ea eb vea veb : Addr) (kea keb : ClassId) (cs : Int32) (h0 : Heap) (n0 : Nat) (Z0 : n0 ≤ h0.size) (E_b : Exa Z h0 eb "java/lang/String") (C_ea : Fld Z h0 ea "java/lang/String" "coder" "B" (.int (0 : Int32))) (V_ea : Fld Z h0 ea "java/lang/String" "value" "[B" (.ref vea)) (A_ea : Arv Z h0 vea kea .byte (17 : Int32) [(.int (100 : Int32)), (.int (97 : Int32)), (.int (105 : Int32)), (.int (108 : Int32)), (.int (121 : Int32)), (.int (32 : Int32)), (.int (80 : Int32)), (.int (38 : Int32)), (.int (76 : Int32)), (.int (32 : Int32)), (.int (97 : Int32)), (.int (109 : Int32)), (.int (111 : Int32)), (.int (117 : Int32)), (.int (110 : Int32)), (.int (116 : Int32)), (.int (115 : Int32))] (.int (0 : Int32))) (C_eb : Fld Z h0 eb "java/lang/String" "coder" "B" (.int (0 : Int32))) (V_eb : Fld Z h0 eb "java/lang/String" "value" "[B" (.ref veb)) (A_eb : Arv Z h0 veb keb .byte (13 : Int32) [(.int (100 : Int32)), (.int (97 : Int32)), (.int (105 : Int32)), (.int (108 : Int32)), (.int (121 : Int32)), (.int (32 : Int32)), (.int (114 : Int32)), (.int (101 : Int32)), (.int (116 : Int32)), (.int (117 : Int32)), (.int (114 : Int32)), (.int (110 : Int32)), (.int (115 : Int32))] (.int (0 : Int32))) (S_c : Sta Z h0 "java/lang/String" "COMPACT_STRINGS" "Z" (.int cs)) (hcs : ¬ (cs = (0 : Int32))) :
    MetFree l (⟨"java/lang/String", "equals", "(Ljava/lang/Object;)Z"⟩ : MethodName) (head1 (Jvm.Cond.code (⟨"java/lang/String", "equals", "(Ljava/lang/Object;)Z"⟩ : MethodName) jdk_42_method_66_code 3 (some .boolean) :: ws) ({ frames := 1, cells := 0, slots := 0, locals := 14 } : Room)) (fun a U => a = #[(.ref ea), (.ref eb)] ∧ Z.Warmed39 U.vm ∧ U.heap = h0) (fun _ _ _ _ _ => True) (fun _ U oc U' => ∃ v L, oc = .returned v ∧ Q3_c ea eb vea veb kea keb cs h0 n0 v U'.heap L ∧ FrameEnd U oc U' L ({ frames := 1, cells := 0, slots := 0, locals := 14 } : Room).cells ({ frames := 1, cells := 0, slots := 0, locals := 14 } : Room).slots) := by
  refine MetFree.of_bodySF (plainFor_of_name pn_3) hisR ?_
  intro p e s m args below meth c s₁ Bd hml0 hP hK
  obtain ⟨rfl, hZ, hh⟩ := hP
  have hx := Bd.exec
  have hby := Bd.bytes
  have hml : c.maxLocals = 3 := hml0
  have hown : s.vm.findClass "java/lang/String" = some m.cls := findClass_of_methodNamed Bd.named
  have hnm := (name_of_methodNamed Bd.named Bd.method).1
  have X0 : Stand p l e ({ frames := 1, cells := 0, slots := 0, locals := 14 } : Room) s m #[(.ref ea), (.ref eb)] below meth c s₁ [] 0 0 := Stand.of_body Bd
  have e0 : s₁.heap = h0 := by rw [← hh, Bd.state]; rfl
  have N0 := Fr.nil n0
  have pre0 : ∀ t, Steps p.tables e below (s₁.setTop (mkF m 0 #[.val (.ref ea), .val (.ref eb), .unset] [])) t → Steps p.tables e below (s₁.setTop (entryFrame m #[(.ref ea), (.ref eb)] 3)) t := fun t kt => castTop (ef_3 m ea eb) kt
  have pre475 : ∀ t, Steps p.tables e below (s₁.setTop (mkF m 2 #[.val (.ref ea), .val (.ref eb), .unset] [(.ref eb), (.ref ea)])) t → Steps p.tables e below (s₁.setTop (entryFrame m #[(.ref ea), (.ref eb)] 3)) t := fun t kt => by
    refine pre0 _ ?_
    show Steps p.tables e below (s₁.setTop (mkF m 0 #[.val (.ref ea), .val (.ref eb), .unset] [])) _
    refine XS.aloadN X0.here hx rfl (hb hby d3_0) rfl rfl ?_
    show Steps p.tables e below (s₁.setTop (mkF m 1 #[.val (.ref ea), .val (.ref eb), .unset] [(.ref ea)])) _
    refine XS.aloadN X0.here hx rfl (hb hby d3_1) rfl rfl ?_
    show Steps p.tables e below (s₁.setTop (mkF m 2 #[.val (.ref ea), .val (.ref eb), .unset] [(.ref eb), (.ref ea)])) _
    exact kt
  by_cases hab : ea = eb
  · exact absurd hab (Fld.ne V_ea V_eb (fun q => arv_ne A_ea A_eb (Or.inl (by decide)) (Value.ref.inj q)))
  · have pre477 : ∀ t, Steps p.tables e below (s₁.setTop (mkF m 7 #[.val (.ref ea), .val (.ref eb), .unset] [])) t → Steps p.tables e below (s₁.setTop (entryFrame m #[(.ref ea), (.ref eb)] 3)) t := fun t kt => pre475 _ (Jvm.RoadKit.acmp (g := (mkF m 2 #[.val (.ref ea), .val (.ref eb), .unset] [(.ref eb), (.ref ea)])) X0 hx rfl rfl rfl (pc0 := 2) (pc' := 7) (same := false) rfl (hb hby d3_2) rfl (decide_eq_false fun q => hab (Value.ref.inj q)) (by decide) (by decide) kt)
    have pre478 : ∀ t, Steps p.tables e below (s₁.setTop (mkF m 8 #[.val (.ref ea), .val (.ref eb), .unset] [(.ref eb)])) t → Steps p.tables e below (s₁.setTop (entryFrame m #[(.ref ea), (.ref eb)] 3)) t := fun t kt => by
      refine pre477 _ ?_
      show Steps p.tables e below (s₁.setTop (mkF m 7 #[.val (.ref ea), .val (.ref eb), .unset] [])) _
      refine XS.aloadN X0.here hx rfl (hb hby d3_7) rfl rfl ?_
      show Steps p.tables e below (s₁.setTop (mkF m 8 #[.val (.ref ea), .val (.ref eb), .unset] [(.ref eb)])) _
      exact kt
    obtain ⟨T479, X479, e479, st479⟩ := instY X0 hx hZ hown (hw _ (List.mem_of_getElem? (i := 40) rfl)) e0 (Ins.self E_b) (g := (mkF m 8 #[.val (.ref ea), .val (.ref eb), .unset] [(.ref eb)])) rfl rfl (hb hby d3_8)
    have pre479 : ∀ t, Steps p.tables e below (T479.setTop (mkF m 11 #[.val (.ref ea), .val (.ref eb), .unset] [(.int (1 : Int32))])) t → Steps p.tables e below (s₁.setTop (entryFrame m #[(.ref ea), (.ref eb)] 3)) t := fun t kt => pre478 _ (st479 t kt)
    have pre481 : ∀ t, Steps p.tables e below (T479.setTop (mkF m 14 #[.val (.ref ea), .val (.ref eb), .unset] [])) t → Steps p.tables e below (s₁.setTop (entryFrame m #[(.ref ea), (.ref eb)] 3)) t := fun t kt => by
      refine pre479 _ ?_
      show Steps p.tables e below (T479.setTop (mkF m 11 #[.val (.ref ea), .val (.ref eb), .unset] [(.int (1 : Int32))])) _
      refine XS.ifNo X479.here hx rfl (hb hby d3_11) rfl ((if0 _ _).trans (feq (by decide : ¬ ((1 : Int32) = (0 : Int32)))).1) ?_
      show Steps p.tables e below (T479.setTop (mkF m 14 #[.val (.ref ea), .val (.ref eb), .unset] [])) _
      exact kt
    have pre482 : ∀ t, Steps p.tables e below (T479.setTop (mkF m 15 #[.val (.ref ea), .val (.ref eb), .unset] [(.ref eb)])) t → Steps p.tables e below (s₁.setTop (entryFrame m #[(.ref ea), (.ref eb)] 3)) t := fun t kt => by
      refine pre481 _ ?_
      show Steps p.tables e below (T479.setTop (mkF m 14 #[.val (.ref ea), .val (.ref eb), .unset] [])) _
      refine XS.aloadN X479.here hx rfl (hb hby d3_14) rfl rfl ?_
      show Steps p.tables e below (T479.setTop (mkF m 15 #[.val (.ref ea), .val (.ref eb), .unset] [(.ref eb)])) _
      exact kt
    obtain ⟨T483, X483, e483, st483⟩ := castY X479 hx hZ hown (hw _ (List.mem_of_getElem? (i := 40) rfl)) e479 (Ins.self E_b) (g := (mkF m 15 #[.val (.ref ea), .val (.ref eb), .unset] [(.ref eb)])) rfl rfl (hb hby d3_15)
    have pre483 : ∀ t, Steps p.tables e below (T483.setTop (mkF m 18 #[.val (.ref ea), .val (.ref eb), .unset] [(.ref eb)])) t → Steps p.tables e below (s₁.setTop (entryFrame m #[(.ref ea), (.ref eb)] 3)) t := fun t kt => pre482 _ (st483 t kt)
    have pre484 : ∀ t, Steps p.tables e below (T483.setTop (mkF m 19 #[.val (.ref ea), .val (.ref eb), .val (.ref eb)] [])) t → Steps p.tables e below (s₁.setTop (entryFrame m #[(.ref ea), (.ref eb)] 3)) t := fun t kt => by
      refine pre483 _ ?_
      show Steps p.tables e below (T483.setTop (mkF m 18 #[.val (.ref ea), .val (.ref eb), .unset] [(.ref eb)])) _
      refine XS.astoreN X483.here hx rfl (hb hby d3_18) rfl rfl (l' := #[.val (.ref ea), .val (.ref eb), .val (.ref eb)]) rfl ?_
      show Steps p.tables e below (T483.setTop (mkF m 19 #[.val (.ref ea), .val (.ref eb), .val (.ref eb)] [])) _
      exact kt
    obtain ⟨T485, X485, e485, st485⟩ := getS2 X483 hx hZ hown (host := "") (Or.inl (hw _ (List.mem_of_getElem? (i := 42) rfl))) Via.refl e483 S_c (g := (mkF m 19 #[.val (.ref ea), .val (.ref eb), .val (.ref eb)] [])) rfl (hb hby d3_19)
    have pre485 : ∀ t, Steps p.tables e below (T485.setTop (mkF m 22 #[.val (.ref ea), .val (.ref eb), .val (.ref eb)] [(.int cs)])) t → Steps p.tables e below (s₁.setTop (entryFrame m #[(.ref ea), (.ref eb)] 3)) t := fun t kt => pre484 _ (st485 t kt)
    have pre487 : ∀ t, Steps p.tables e below (T485.setTop (mkF m 25 #[.val (.ref ea), .val (.ref eb), .val (.ref eb)] [])) t → Steps p.tables e below (s₁.setTop (entryFrame m #[(.ref ea), (.ref eb)] 3)) t := fun t kt => by
      refine pre485 _ ?_
      show Steps p.tables e below (T485.setTop (mkF m 22 #[.val (.ref ea), .val (.ref eb), .val (.ref eb)] [(.int cs)])) _
      refine XS.ifNo X485.here hx rfl (hb hby d3_22) rfl ((if0 _ _).trans (feq hcs).1) ?_
      show Steps p.tables e below (T485.setTop (mkF m 25 #[.val (.ref ea), .val (.ref eb), .val (.ref eb)] [])) _
      exact kt
    have pre488 : ∀ t, Steps p.tables e below (T485.setTop (mkF m 26 #[.val (.ref ea), .val (.ref eb), .val (.ref eb)] [(.ref ea)])) t → Steps p.tables e below (s₁.setTop (entryFrame m #[(.ref ea), (.ref eb)] 3)) t := fun t kt => by
      refine pre487 _ ?_
      show Steps p.tables e below (T485.setTop (mkF m 25 #[.val (.ref ea), .val (.ref eb), .val (.ref eb)] [])) _
      refine XS.aloadN X485.here hx rfl (hb hby d3_25) rfl rfl ?_
      show Steps p.tables e below (T485.setTop (mkF m 26 #[.val (.ref ea), .val (.ref eb), .val (.ref eb)] [(.ref ea)])) _
      exact kt
    obtain ⟨T489, X489, e489, st489⟩ := getF X485 hx hZ hown (host := "") (Or.inl (hw _ (List.mem_of_getElem? (i := 43) rfl))) Via.refl e485 C_ea (g := (mkF m 26 #[.val (.ref ea), .val (.ref eb), .val (.ref eb)] [(.ref ea)])) rfl rfl (hb hby d3_26)
    have pre489 : ∀ t, Steps p.tables e below (T489.setTop (mkF m 29 #[.val (.ref ea), .val (.ref eb), .val (.ref eb)] [(.int (0 : Int32))])) t → Steps p.tables e below (s₁.setTop (entryFrame m #[(.ref ea), (.ref eb)] 3)) t := fun t kt => pre488 _ (st489 t kt)
    have pre490 : ∀ t, Steps p.tables e below (T489.setTop (mkF m 30 #[.val (.ref ea), .val (.ref eb), .val (.ref eb)] [(.ref eb), (.int (0 : Int32))])) t → Steps p.tables e below (s₁.setTop (entryFrame m #[(.ref ea), (.ref eb)] 3)) t := fun t kt => by
      refine pre489 _ ?_
      show Steps p.tables e below (T489.setTop (mkF m 29 #[.val (.ref ea), .val (.ref eb), .val (.ref eb)] [(.int (0 : Int32))])) _
      refine XS.aloadN X489.here hx rfl (hb hby d3_29) rfl rfl ?_
      show Steps p.tables e below (T489.setTop (mkF m 30 #[.val (.ref ea), .val (.ref eb), .val (.ref eb)] [(.ref eb), (.int (0 : Int32))])) _
      exact kt
    obtain ⟨T491, X491, e491, st491⟩ := getF X489 hx hZ hown (host := "") (Or.inl (hw _ (List.mem_of_getElem? (i := 43) rfl))) Via.refl e489 C_eb (g := (mkF m 30 #[.val (.ref ea), .val (.ref eb), .val (.ref eb)] [(.ref eb), (.int (0 : Int32))])) rfl rfl (hb hby d3_30)
    have pre491 : ∀ t, Steps p.tables e below (T491.setTop (mkF m 33 #[.val (.ref ea), .val (.ref eb), .val (.ref eb)] [(.int (0 : Int32)), (.int (0 : Int32))])) t → Steps p.tables e below (s₁.setTop (entryFrame m #[(.ref ea), (.ref eb)] 3)) t := fun t kt => pre490 _ (st491 t kt)
    have pre493 : ∀ t, Steps p.tables e below (T491.setTop (mkF m 36 #[.val (.ref ea), .val (.ref eb), .val (.ref eb)] [])) t → Steps p.tables e below (s₁.setTop (entryFrame m #[(.ref ea), (.ref eb)] 3)) t := fun t kt => by
      refine pre491 _ ?_
      show Steps p.tables e below (T491.setTop (mkF m 33 #[.val (.ref ea), .val (.ref eb), .val (.ref eb)] [(.int (0 : Int32)), (.int (0 : Int32))])) _
      refine XS.icmpNo X491.here hx rfl (hb hby d3_33) rfl (teq (by decide : (0 : Int32) = (0 : Int32))).2 ?_
      show Steps p.tables e below (T491.setTop (mkF m 36 #[.val (.ref ea), .val (.ref eb), .val (.ref eb)] [])) _
      exact kt
    have pre494 : ∀ t, Steps p.tables e below (T491.setTop (mkF m 37 #[.val (.ref ea), .val (.ref eb), .val (.ref eb)] [(.ref ea)])) t → Steps p.tables e below (s₁.setTop (entryFrame m #[(.ref ea), (.ref eb)] 3)) t := fun t kt => by
      refine pre493 _ ?_
      show Steps p.tables e below (T491.setTop (mkF m 36 #[.val (.ref ea), .val (.ref eb), .val (.ref eb)] [])) _
      refine XS.aloadN X491.here hx rfl (hb hby d3_36) rfl rfl ?_
      show Steps p.tables e below (T491.setTop (mkF m 37 #[.val (.ref ea), .val (.ref eb), .val (.ref eb)] [(.ref ea)])) _
      exact kt
    obtain ⟨T495, X495, e495, st495⟩ := getF X491 hx hZ hown (host := "") (Or.inl (hw _ (List.mem_of_getElem? (i := 44) rfl))) Via.refl e491 V_ea (g := (mkF m 37 #[.val (.ref ea), .val (.ref eb), .val (.ref eb)] [(.ref ea)])) rfl rfl (hb hby d3_37)
    have pre495 : ∀ t, Steps p.tables e below (T495.setTop (mkF m 40 #[.val (.ref ea), .val (.ref eb), .val (.ref eb)] [(.ref vea)])) t → Steps p.tables e below (s₁.setTop (entryFrame m #[(.ref ea), (.ref eb)] 3)) t := fun t kt => pre494 _ (st495 t kt)
    have pre496 : ∀ t, Steps p.tables e below (T495.setTop (mkF m 41 #[.val (.ref ea), .val (.ref eb), .val (.ref eb)] [(.ref eb), (.ref vea)])) t → Steps p.tables e below (s₁.setTop (entryFrame m #[(.ref ea), (.ref eb)] 3)) t := fun t kt => by
      refine pre495 _ ?_
      show Steps p.tables e below (T495.setTop (mkF m 40 #[.val (.ref ea), .val (.ref eb), .val (.ref eb)] [(.ref vea)])) _
      refine XS.aloadN X495.here hx rfl (hb hby d3_40) rfl rfl ?_
      show Steps p.tables e below (T495.setTop (mkF m 41 #[.val (.ref ea), .val (.ref eb), .val (.ref eb)] [(.ref eb), (.ref vea)])) _
      exact kt
    obtain ⟨T497, X497, e497, st497⟩ := getF X495 hx hZ hown (host := "") (Or.inl (hw _ (List.mem_of_getElem? (i := 44) rfl))) Via.refl e495 V_eb (g := (mkF m 41 #[.val (.ref ea), .val (.ref eb), .val (.ref eb)] [(.ref eb), (.ref vea)])) rfl rfl (hb hby d3_41)
    have pre497 : ∀ t, Steps p.tables e below (T497.setTop (mkF m 44 #[.val (.ref ea), .val (.ref eb), .val (.ref eb)] [(.ref veb), (.ref vea)])) t → Steps p.tables e below (s₁.setTop (entryFrame m #[(.ref ea), (.ref eb)] 3)) t := fun t kt => pre496 _ (st497 t kt)
    obtain ⟨v499, _, ⟨T499, L499, k499, n499⟩, -, X499, ⟨Lc499, hQ499, l499, y499, z499⟩, st499⟩ := Jvm.LawKit.callS X497 hx (y := (⟨"java/lang/StringLatin1", "equals", "([B[B)Z"⟩ : MethodName)) hown (mvT hZ (hw _ (List.mem_of_getElem? (i := 45) rfl))) (mvT hZ (hw _ (List.mem_of_getElem? (i := 46) rfl))) (mvT hZ (hw _ (List.mem_of_getElem? (i := 47) rfl))) (mvT hZ (hw _ (List.mem_of_getElem? (i := 48) rfl))) (by decide) (backOf (W := 0) (rm5_c l Z aZ hw [] vea veb kea keb  h0 n0 Z0 A_ea A_eb) hZ (hw _ (List.mem_of_getElem? (i := 48) rfl)) (hw _ (List.mem_of_getElem? (i := 47) rfl)) (by decide) (by decide)) (g := (mkF m 44 #[.val (.ref ea), .val (.ref eb), .val (.ref eb)] [(.ref veb), (.ref vea)])) rfl (by rw [hml]; rfl) (argsL := [(.ref vea), (.ref veb)]) (rest := []) (lenOf pd_4 rfl) rfl (by show 2 * 0 + _ ≤ _; exact Nat.le_of_eq rfl) (hb hby d3_44) (fun _ _ => ⟨rfl, e497, (by decide : 0 + 0 ≤ _), (by decide : 0 + 0 ≤ _)⟩)
    dsimp only [Pt.U, Pt.locs, Pt.cells, Pt.slots] at X499 l499 y499 z499 st499 hQ499
    rw [l499, y499, z499] at X499
    clear l499 y499 z499
    obtain ⟨vq499, N499q, e499⟩ := hQ499
    rw [vq499] at st499
    have N499 := Fr.app N0 N499q
    have pre499 : ∀ t, Steps p.tables e below (T499.setTop (mkF m 47 #[.val (.ref ea), .val (.ref eb), .val (.ref eb)] [(.int (0 : Int32))])) t → Steps p.tables e below (s₁.setTop (entryFrame m #[(.ref ea), (.ref eb)] 3)) t := fun t kt => pre497 _ (st499 t kt)
    have pre501 : ∀ t, Steps p.tables e below (T499.setTop (mkF m 54 #[.val (.ref ea), .val (.ref eb), .val (.ref eb)] [])) t → Steps p.tables e below (s₁.setTop (entryFrame m #[(.ref ea), (.ref eb)] 3)) t := fun t kt => by
      refine pre499 _ ?_
      show Steps p.tables e below (T499.setTop (mkF m 47 #[.val (.ref ea), .val (.ref eb), .val (.ref eb)] [(.int (0 : Int32))])) _
      refine XS.ifYes X499.here hx rfl (pc0 := 47) (pc' := 54) rfl (hb hby d3_47) rfl ((if0 _ _).trans (teq (by decide : (0 : Int32) = (0 : Int32))).1) (by decide) (by decide) ?_
      show Steps p.tables e below (T499.setTop (mkF m 54 #[.val (.ref ea), .val (.ref eb), .val (.ref eb)] [])) _
      exact kt
    have pre502 : ∀ t, Steps p.tables e below (T499.setTop (mkF m 55 #[.val (.ref ea), .val (.ref eb), .val (.ref eb)] [(.int (0 : Int32))])) t → Steps p.tables e below (s₁.setTop (entryFrame m #[(.ref ea), (.ref eb)] 3)) t := fun t kt => by
      refine pre501 _ ?_
      show Steps p.tables e below (T499.setTop (mkF m 54 #[.val (.ref ea), .val (.ref eb), .val (.ref eb)] [])) _
      refine XS.iconst X499.here hx rfl (hb hby d3_54) ?_
      show Steps p.tables e below (T499.setTop (mkF m 55 #[.val (.ref ea), .val (.ref eb), .val (.ref eb)] [(.int (0 : Int32))])) _
      exact kt
    obtain ⟨fs, hr, hrun, hended, hW, hsame⟩ := X499.leave (v := some (.int (0 : Int32))) (fun h => by rw [Bd.returns] at h; cases h)
    refine ⟨_, _, pre502 _ ?_, hrun, hended, _, _, rfl, ?_, ⟨_, rfl⟩, hW, hsame.mono (by decide) (by decide)⟩
    · show Steps p.tables e below (T499.setTop (mkF m 55 #[.val (.ref ea), .val (.ref eb), .val (.ref eb)] [(.int (0 : Int32))])) _
      exact retN X499 hx (t := .boolean) Bd.returns (by simp) (hb hby d3_55) hr
    · show Q3_c ea eb vea veb kea keb cs h0 n0 _ T499.heap _
      rw [e499]
      exact ⟨rfl, N499, rfl⟩
theorem own_sa : ∀ d ∈ Bundle.stringAtoms, d ∈ tables_1 := by
  intro d hd
  simp only [Bundle.stringAtoms, List.mem_cons, List.not_mem_nil, or_false] at hd
  rcases hd with rfl | rfl | rfl | rfl | rfl | rfl | rfl
  · exact List.mem_of_getElem? (i := 16) rfl
  · exact List.mem_of_getElem? (i := 17) rfl
  · exact List.mem_of_getElem? (i := 18) rfl
  · exact List.mem_of_getElem? (i := 19) rfl
  · exact List.mem_of_getElem? (i := 20) rfl
  · exact List.mem_of_getElem? (i := 21) rfl
  · exact List.mem_of_getElem? (i := 22) rfl
theorem own_tx13 : (∀ c ∈ ("daily returns" : String).toList, c.toNat < 256) ∧ ("daily returns" : String).toList.map (fun c => Value.int (Jvm.Lit.byteI c.toNat.toUInt16)) = [(.int (100 : Int32)), (.int (97 : Int32)), (.int (105 : Int32)), (.int (108 : Int32)), (.int (121 : Int32)), (.int (32 : Int32)), (.int (114 : Int32)), (.int (101 : Int32)), (.int (116 : Int32)), (.int (117 : Int32)), (.int (114 : Int32)), (.int (110 : Int32)), (.int (115 : Int32))] := ⟨by decide +kernel, by decide +kernel⟩
theorem own_tx17 : (∀ c ∈ ("daily P&L amounts" : String).toList, c.toNat < 256) ∧ ("daily P&L amounts" : String).toList.map (fun c => Value.int (Jvm.Lit.byteI c.toNat.toUInt16)) = [(.int (100 : Int32)), (.int (97 : Int32)), (.int (105 : Int32)), (.int (108 : Int32)), (.int (121 : Int32)), (.int (32 : Int32)), (.int (80 : Int32)), (.int (38 : Int32)), (.int (76 : Int32)), (.int (32 : Int32)), (.int (97 : Int32)), (.int (109 : Int32)), (.int (111 : Int32)), (.int (117 : Int32)), (.int (110 : Int32)), (.int (116 : Int32)), (.int (115 : Int32))] := ⟨by decide +kernel, by decide +kernel⟩
theorem d2_0 : decode prog_48_method_7_code 0 = .ok (.aload_n 0, 1) := by decide +kernel
theorem d2_1 : decode prog_48_method_7_code 1 = .ok (.getfield 36, 3) := by decide +kernel
theorem d2_4 : decode prog_48_method_7_code 4 = .ok (.ifCond .eq 8, 3) := by decide +kernel
theorem d2_7 : decode prog_48_method_7_code 7 = .ok (.ldc 43, 2) := by decide +kernel
theorem d2_9 : decode prog_48_method_7_code 9 = .ok (.goto 5, 3) := by decide +kernel
theorem d2_12 : decode prog_48_method_7_code 12 = .ok (.ldc 45, 2) := by decide +kernel
theorem d2_14 : decode prog_48_method_7_code 14 = .ok (.areturn, 1) := by decide +kernel
theorem ef_2 (m : MethodId) (x0 : Addr) : entryFrame m #[(.ref x0)] 1 = mkF m 0 #[.val (.ref x0)] [] := by first | (simp [entryFrame, mkF, argsToLocals, Value.category]; done) | rfl
def Q2_1 (Z : State) (o : Addr) (h0 : Heap) (n0 : Nat) (v : Option Value) (h : Heap) (L : List Loc) : Prop := ∃ (c b : Addr) (k : ClassId), v = some (.ref c) ∧ Fr n0 L ∧ Ext h0 h ∧ Exa Z h c "java/lang/String" ∧ Fld Z h c "java/lang/String" "coder" "B" (.int (0 : Int32)) ∧ Fld Z h c "java/lang/String" "value" "[B" (.ref b) ∧ Arv Z h b k .byte (13 : Int32) [(.int (100 : Int32)), (.int (97 : Int32)), (.int (105 : Int32)), (.int (108 : Int32)), (.int (121 : Int32)), (.int (32 : Int32)), (.int (114 : Int32)), (.int (101 : Int32)), (.int (116 : Int32)), (.int (117 : Int32)), (.int (114 : Int32)), (.int (110 : Int32)), (.int (115 : Int32))] (.int (0 : Int32))
set_option maxRecDepth 65536 in
set_option maxHeartbeats 40000000 in
theorem rm2_1 (l : Launch) (Z : State) (aZ : Array Value) (hw : ∀ d ∈ tables_1, d.before aZ Z = true) (ws : List Jvm.Cond) (o : Addr) (h0 : Heap) (n0 : Nat) (Z0 : n0 ≤ h0.size) (F_o : Fld Z h0 o "com/example/novation/novation/model/SeriesKind" "prices" "Z" (.int (1 : Int32))) (hEL : EW Z aZ consts_1) :
    MetFree l (⟨"com/example/novation/novation/model/SeriesKind", "changes", "()Ljava/lang/String;"⟩ : MethodName) (head1 (Jvm.Cond.code (⟨"com/example/novation/novation/model/SeriesKind", "changes", "()Ljava/lang/String;"⟩ : MethodName) prog_48_method_7_code 1 (some (.object "java/lang/String")) :: ws) ({ frames := 0, cells := 2, slots := 56, locals := 0 } : Room)) (fun a U => a = #[(.ref o)] ∧ Z.Warmed39 U.vm ∧ U.heap = h0 ∧ CHv Z consts_1 U.vm h0) (fun _ _ _ _ _ => True) (fun _ U oc U' => ∃ v L, oc = .returned v ∧ Q2_1 Z o h0 n0 v U'.heap L ∧ CHr Z consts_1 U.vm U.heap U'.vm U'.heap ∧ ReturnedEndW U oc U' L ({ frames := 0, cells := 2, slots := 56, locals := 0 } : Room).cells ({ frames := 0, cells := 2, slots := 56, locals := 0 } : Room).slots) := by
  refine MetFree.of_bodySF (plainFor_of_name pn_4) hisR ?_
  intro p e s m args below meth c s₁ Bd hml0 hP hK
  obtain ⟨rfl, hZ, hh, hCH⟩ := hP
  have hx := Bd.exec
  have hby := Bd.bytes
  have hml : c.maxLocals = 1 := hml0
  have hown : s.vm.findClass "com/example/novation/novation/model/SeriesKind" = some m.cls := findClass_of_methodNamed Bd.named
  have hnm := (name_of_methodNamed Bd.named Bd.method).1
  have X0 : Stand p l e ({ frames := 0, cells := 2, slots := 56, locals := 0 } : Room) s m #[(.ref o)] below meth c s₁ [] 0 0 := Stand.of_body Bd
  have e0 : s₁.heap = h0 := by rw [← hh, Bd.state]; rfl
  have N0 := Fr.nil n0
  have pre0 : ∀ t, Steps p.tables e below (s₁.setTop (mkF m 0 #[.val (.ref o)] [])) t → Steps p.tables e below (s₁.setTop (entryFrame m #[(.ref o)] 1)) t := fun t kt => castTop (ef_2 m o) kt
  have hS0 : s.Since s.vm h0.size := (State.WarmedH.refl s).since _
  have pre503 : ∀ t, Steps p.tables e below (s₁.setTop (mkF m 1 #[.val (.ref o)] [(.ref o)])) t → Steps p.tables e below (s₁.setTop (entryFrame m #[(.ref o)] 1)) t := fun t kt => by
    refine pre0 _ ?_
    show Steps p.tables e below (s₁.setTop (mkF m 0 #[.val (.ref o)] [])) _
    refine XS.aloadN X0.here hx rfl (hb hby d2_0) rfl rfl ?_
    show Steps p.tables e below (s₁.setTop (mkF m 1 #[.val (.ref o)] [(.ref o)])) _
    exact kt
  obtain ⟨T504, X504, e504, st504⟩ := getF X0 hx hZ hown (host := "") (Or.inl (hw _ (List.mem_of_getElem? (i := 13) rfl))) Via.refl e0 F_o (g := (mkF m 1 #[.val (.ref o)] [(.ref o)])) rfl rfl (hb hby d2_1)
  have pre504 : ∀ t, Steps p.tables e below (T504.setTop (mkF m 4 #[.val (.ref o)] [(.int (1 : Int32))])) t → Steps p.tables e below (s₁.setTop (entryFrame m #[(.ref o)] 1)) t := fun t kt => pre503 _ (st504 t kt)
  have pre506 : ∀ t, Steps p.tables e below (T504.setTop (mkF m 7 #[.val (.ref o)] [])) t → Steps p.tables e below (s₁.setTop (entryFrame m #[(.ref o)] 1)) t := fun t kt => by
    refine pre504 _ ?_
    show Steps p.tables e below (T504.setTop (mkF m 4 #[.val (.ref o)] [(.int (1 : Int32))])) _
    refine XS.ifNo X504.here hx rfl (hb hby d2_4) rfl ((if0 _ _).trans (feq (by decide : ¬ ((1 : Int32) = (0 : Int32)))).1) ?_
    show Steps p.tables e below (T504.setTop (mkF m 7 #[.val (.ref o)] [])) _
    exact kt
  obtain ⟨sa508, T508, h508, k1_508, sb508, kb508, X508, e508, E508, hS508, hk508, hZ508, ho508, Ea508, Ca508, Va508, Aa508, la508, lb508, CH508, -, -, st508⟩ := ldcCH (s := s) (vm0 := s.vm) X504 hx hZ hown (hw _ (List.mem_of_getElem? (i := 15) rfl)) (fun d hd => hw d (own_sa d hd)) e504 hS0 (Nat.le_refl _) hEL (List.mem_of_getElem? (i := 0) rfl) hCH own_tx13 (z := (13 : Int32)) (by decide) (by decide) (g := (mkF m 7 #[.val (.ref o)] [])) rfl (hb hby d2_7) (n := 52) (by decide) (by decide) (by decide) (by decide)
  have hZ := hZ508
  have hown := ho508
  have CHq508 := CH508.1
  have R508 := (CHr.refl hCH).trans CH508
  have F508_0 := F_o.ext E508
  have Zs508 : n0 ≤ h508.size := Nat.le_trans Z0 E508.1
  have pre508 : ∀ t, Steps p.tables e below (T508.setTop (mkF m 9 #[.val (.ref o)] [(.ref sa508)])) t → Steps p.tables e below (s₁.setTop (entryFrame m #[(.ref o)] 1)) t := fun t kt => pre506 _ (st508 t kt)
  have pre509 : ∀ t, Steps p.tables e below (T508.setTop (mkF m 14 #[.val (.ref o)] [(.ref sa508)])) t → Steps p.tables e below (s₁.setTop (entryFrame m #[(.ref o)] 1)) t := fun t kt => by
    refine pre508 _ ?_
    show Steps p.tables e below (T508.setTop (mkF m 9 #[.val (.ref o)] [(.ref sa508)])) _
    refine XS.goto X508.here hx rfl (pc0 := 9) (pc' := 14) rfl (hb hby d2_9) (by decide) (by decide) ?_
    show Steps p.tables e below (T508.setTop (mkF m 14 #[.val (.ref o)] [(.ref sa508)])) _
    exact kt
  obtain ⟨fs, hr, hrun, hended, hEnd⟩ := X508.leaveW hS508 (by rw [e508]; exact hk508) (v := some (.ref sa508)) (fun h => by rw [Bd.returns] at h; cases h)
  refine ⟨_, _, pre509 _ ?_, hrun, hended, _, _, rfl, ?_, ?_, own_rmono hEnd (by decide) (by decide)⟩
  · show Steps p.tables e below (T508.setTop (mkF m 14 #[.val (.ref o)] [(.ref sa508)])) _
    jvm_step X508.here [X508.here.top, hx, (hb hby d2_14), X508.method', Bd.returns, Value.isRef, FieldType.isReference]
    first | (intro acts; rw [hr _ acts rfl rfl rfl]) | rw [hr _ _ rfl rfl rfl]
    exact Steps.refl _
  · show Q2_1 Z o h0 n0 _ T508.heap _
    rw [e508]
    exact ⟨sa508, sb508, kb508, rfl, N0, E508, Ea508, Ca508, Va508, Aa508⟩
  · show CHr Z consts_1 s.vm s.heap T508.vm T508.heap
    rw [hh, e508]
    exact R508
def Q2_0 (Z : State) (o : Addr) (h0 : Heap) (n0 : Nat) (v : Option Value) (h : Heap) (L : List Loc) : Prop := ∃ (c b : Addr) (k : ClassId), v = some (.ref c) ∧ Fr n0 L ∧ Ext h0 h ∧ Exa Z h c "java/lang/String" ∧ Fld Z h c "java/lang/String" "coder" "B" (.int (0 : Int32)) ∧ Fld Z h c "java/lang/String" "value" "[B" (.ref b) ∧ Arv Z h b k .byte (17 : Int32) [(.int (100 : Int32)), (.int (97 : Int32)), (.int (105 : Int32)), (.int (108 : Int32)), (.int (121 : Int32)), (.int (32 : Int32)), (.int (80 : Int32)), (.int (38 : Int32)), (.int (76 : Int32)), (.int (32 : Int32)), (.int (97 : Int32)), (.int (109 : Int32)), (.int (111 : Int32)), (.int (117 : Int32)), (.int (110 : Int32)), (.int (116 : Int32)), (.int (115 : Int32))] (.int (0 : Int32))
set_option maxRecDepth 65536 in
set_option maxHeartbeats 40000000 in
theorem rm2_0 (l : Launch) (Z : State) (aZ : Array Value) (hw : ∀ d ∈ tables_1, d.before aZ Z = true) (ws : List Jvm.Cond) (o : Addr) (h0 : Heap) (n0 : Nat) (Z0 : n0 ≤ h0.size) (F_o : Fld Z h0 o "com/example/novation/novation/model/SeriesKind" "prices" "Z" (.int (0 : Int32))) (hEL : EW Z aZ consts_1) :
    MetFree l (⟨"com/example/novation/novation/model/SeriesKind", "changes", "()Ljava/lang/String;"⟩ : MethodName) (head1 (Jvm.Cond.code (⟨"com/example/novation/novation/model/SeriesKind", "changes", "()Ljava/lang/String;"⟩ : MethodName) prog_48_method_7_code 1 (some (.object "java/lang/String")) :: ws) ({ frames := 0, cells := 2, slots := 72, locals := 0 } : Room)) (fun a U => a = #[(.ref o)] ∧ Z.Warmed39 U.vm ∧ U.heap = h0 ∧ CHv Z consts_1 U.vm h0) (fun _ _ _ _ _ => True) (fun _ U oc U' => ∃ v L, oc = .returned v ∧ Q2_0 Z o h0 n0 v U'.heap L ∧ CHr Z consts_1 U.vm U.heap U'.vm U'.heap ∧ ReturnedEndW U oc U' L ({ frames := 0, cells := 2, slots := 72, locals := 0 } : Room).cells ({ frames := 0, cells := 2, slots := 72, locals := 0 } : Room).slots) := by
  refine MetFree.of_bodySF (plainFor_of_name pn_4) hisR ?_
  intro p e s m args below meth c s₁ Bd hml0 hP hK
  obtain ⟨rfl, hZ, hh, hCH⟩ := hP
  have hx := Bd.exec
  have hby := Bd.bytes
  have hml : c.maxLocals = 1 := hml0
  have hown : s.vm.findClass "com/example/novation/novation/model/SeriesKind" = some m.cls := findClass_of_methodNamed Bd.named
  have hnm := (name_of_methodNamed Bd.named Bd.method).1
  have X0 : Stand p l e ({ frames := 0, cells := 2, slots := 72, locals := 0 } : Room) s m #[(.ref o)] below meth c s₁ [] 0 0 := Stand.of_body Bd
  have e0 : s₁.heap = h0 := by rw [← hh, Bd.state]; rfl
  have N0 := Fr.nil n0
  have pre0 : ∀ t, Steps p.tables e below (s₁.setTop (mkF m 0 #[.val (.ref o)] [])) t → Steps p.tables e below (s₁.setTop (entryFrame m #[(.ref o)] 1)) t := fun t kt => castTop (ef_2 m o) kt
  have hS0 : s.Since s.vm h0.size := (State.WarmedH.refl s).since _
  have pre510 : ∀ t, Steps p.tables e below (s₁.setTop (mkF m 1 #[.val (.ref o)] [(.ref o)])) t → Steps p.tables e below (s₁.setTop (entryFrame m #[(.ref o)] 1)) t := fun t kt => by
    refine pre0 _ ?_
    show Steps p.tables e below (s₁.setTop (mkF m 0 #[.val (.ref o)] [])) _
    refine XS.aloadN X0.here hx rfl (hb hby d2_0) rfl rfl ?_
    show Steps p.tables e below (s₁.setTop (mkF m 1 #[.val (.ref o)] [(.ref o)])) _
    exact kt
  obtain ⟨T511, X511, e511, st511⟩ := getF X0 hx hZ hown (host := "") (Or.inl (hw _ (List.mem_of_getElem? (i := 13) rfl))) Via.refl e0 F_o (g := (mkF m 1 #[.val (.ref o)] [(.ref o)])) rfl rfl (hb hby d2_1)
  have pre511 : ∀ t, Steps p.tables e below (T511.setTop (mkF m 4 #[.val (.ref o)] [(.int (0 : Int32))])) t → Steps p.tables e below (s₁.setTop (entryFrame m #[(.ref o)] 1)) t := fun t kt => pre510 _ (st511 t kt)
  have pre513 : ∀ t, Steps p.tables e below (T511.setTop (mkF m 12 #[.val (.ref o)] [])) t → Steps p.tables e below (s₁.setTop (entryFrame m #[(.ref o)] 1)) t := fun t kt => by
    refine pre511 _ ?_
    show Steps p.tables e below (T511.setTop (mkF m 4 #[.val (.ref o)] [(.int (0 : Int32))])) _
    refine XS.ifYes X511.here hx rfl (pc0 := 4) (pc' := 12) rfl (hb hby d2_4) rfl ((if0 _ _).trans (teq (by decide : (0 : Int32) = (0 : Int32))).1) (by decide) (by decide) ?_
    show Steps p.tables e below (T511.setTop (mkF m 12 #[.val (.ref o)] [])) _
    exact kt
  obtain ⟨sa515, T515, h515, k1_515, sb515, kb515, X515, e515, E515, hS515, hk515, hZ515, ho515, Ea515, Ca515, Va515, Aa515, la515, lb515, CH515, -, -, st515⟩ := ldcCH (s := s) (vm0 := s.vm) X511 hx hZ hown (hw _ (List.mem_of_getElem? (i := 38) rfl)) (fun d hd => hw d (own_sa d hd)) e511 hS0 (Nat.le_refl _) hEL (List.mem_of_getElem? (i := 1) rfl) hCH own_tx17 (z := (17 : Int32)) (by decide) (by decide) (g := (mkF m 12 #[.val (.ref o)] [])) rfl (hb hby d2_12) (n := 68) (by decide) (by decide) (by decide) (by decide)
  have hZ := hZ515
  have hown := ho515
  have CHq515 := CH515.1
  have R515 := (CHr.refl hCH).trans CH515
  have F515_0 := F_o.ext E515
  have Zs515 : n0 ≤ h515.size := Nat.le_trans Z0 E515.1
  have pre515 : ∀ t, Steps p.tables e below (T515.setTop (mkF m 14 #[.val (.ref o)] [(.ref sa515)])) t → Steps p.tables e below (s₁.setTop (entryFrame m #[(.ref o)] 1)) t := fun t kt => pre513 _ (st515 t kt)
  obtain ⟨fs, hr, hrun, hended, hEnd⟩ := X515.leaveW hS515 (by rw [e515]; exact hk515) (v := some (.ref sa515)) (fun h => by rw [Bd.returns] at h; cases h)
  refine ⟨_, _, pre515 _ ?_, hrun, hended, _, _, rfl, ?_, ?_, own_rmono hEnd (by decide) (by decide)⟩
  · show Steps p.tables e below (T515.setTop (mkF m 14 #[.val (.ref o)] [(.ref sa515)])) _
    jvm_step X515.here [X515.here.top, hx, (hb hby d2_14), X515.method', Bd.returns, Value.isRef, FieldType.isReference]
    first | (intro acts; rw [hr _ acts rfl rfl rfl]) | rw [hr _ _ rfl rfl rfl]
    exact Steps.refl _
  · show Q2_0 Z o h0 n0 _ T515.heap _
    rw [e515]
    exact ⟨sa515, sb515, kb515, rfl, N0, E515, Ea515, Ca515, Va515, Aa515⟩
  · show CHr Z consts_1 s.vm s.heap T515.vm T515.heap
    rw [hh, e515]
    exact R515
theorem ef_0 (m : MethodId) (x0 : Int32) : entryFrame m #[(.int x0)] maxLocals = mkF m 0 #[.val (.int x0), .unset, .unset, .unset, .unset, .unset] [] := by first | (simp [entryFrame, mkF, argsToLocals, Value.category, maxLocals]; done) | rfl
def Q0 (h0 : Heap) (n0 : Nat) (v : Option Value) (h : Heap) (L : List Loc) : Prop := v = some (.int (1 : Int32)) ∧ Fr n0 L
theorem own_three (k : Int32) : ∃ i : Int32, i = ((k &&& (2147483647 : Int32)) - ((k &&& (2147483647 : Int32)) / (3 : Int32)) * (3 : Int32)) ∧ (i = 0 ∨ i = 1 ∨ i = 2) := by
  refine ⟨_, rfl, ?_⟩
  have h : ∀ b : BitVec 32, (b &&& 2147483647#32) - (b &&& 2147483647#32).sdiv 3#32 * 3#32 = 0#32 ∨ (b &&& 2147483647#32) - (b &&& 2147483647#32).sdiv 3#32 * 3#32 = 1#32 ∨ (b &&& 2147483647#32) - (b &&& 2147483647#32).sdiv 3#32 * 3#32 = 2#32 := by
    intro b
    have hm : (b &&& 2147483647#32).toNat < 2147483648 := by
      rw [BitVec.toNat_and]; exact Nat.lt_of_le_of_lt Nat.and_le_right (by decide)
    generalize b &&& 2147483647#32 = c at hm
    have hs : c.sdiv 3#32 = c / 3#32 := by
      rw [BitVec.sdiv_eq]
      have h1 : c.msb = false := by rw [BitVec.msb_eq_decide]; simp; omega
      rw [h1]; rfl
    rw [hs]
    have hq : (c / 3#32).toNat = c.toNat / 3 := by rw [BitVec.toNat_udiv]; rfl
    have hn : (c - c / 3#32 * 3#32).toNat = c.toNat % 3 := by
      rw [BitVec.toNat_sub, BitVec.toNat_mul, hq]; show (2 ^ 32 - c.toNat / 3 * 3 % 2 ^ 32 + c.toNat) % 2 ^ 32 = _; omega
    have : c.toNat % 3 = 0 ∨ c.toNat % 3 = 1 ∨ c.toNat % 3 = 2 := by omega
    rcases this with q | q | q
    · left; apply BitVec.eq_of_toNat_eq; rw [hn, q]; rfl
    · right; left; apply BitVec.eq_of_toNat_eq; rw [hn, q]; rfl
    · right; right; apply BitVec.eq_of_toNat_eq; rw [hn, q]; rfl
  rcases h k.toBitVec with q | q | q
  · left; exact Int32.toBitVec_inj.mp q
  · right; left; exact Int32.toBitVec_inj.mp q
  · right; right; exact Int32.toBitVec_inj.mp q
set_option maxRecDepth 65536 in
set_option maxHeartbeats 40000000 in
theorem rm0 (l : Launch) (Z : State) (aZ : Array Value) (hw : ∀ d ∈ tables_1, d.before aZ Z = true) (ws : List Jvm.Cond) (kv : Int32) (wP wR wN : Addr) (cs : Int32) (h0 : Heap) (n0 : Nat) (Z0 : n0 ≤ h0.size) (S_wP : Sta Z h0 "com/example/novation/novation/model/SeriesKind" "PRICE" "Lcom/example/novation/novation/model/SeriesKind;" (.ref wP)) (E_wP : Exa Z h0 wP "com/example/novation/novation/model/SeriesKind$1") (F_wP : Fld Z h0 wP "com/example/novation/novation/model/SeriesKind" "prices" "Z" (.int (1 : Int32))) (S_wR : Sta Z h0 "com/example/novation/novation/model/SeriesKind" "RATE" "Lcom/example/novation/novation/model/SeriesKind;" (.ref wR)) (E_wR : Exa Z h0 wR "com/example/novation/novation/model/SeriesKind$2") (F_wR : Fld Z h0 wR "com/example/novation/novation/model/SeriesKind" "prices" "Z" (.int (1 : Int32))) (S_wN : Sta Z h0 "com/example/novation/novation/model/SeriesKind" "PNL" "Lcom/example/novation/novation/model/SeriesKind;" (.ref wN)) (E_wN : Exa Z h0 wN "com/example/novation/novation/model/SeriesKind$3") (F_wN : Fld Z h0 wN "com/example/novation/novation/model/SeriesKind" "prices" "Z" (.int (0 : Int32))) (S_c : Sta Z h0 "java/lang/String" "COMPACT_STRINGS" "Z" (.int cs)) (hcs : ¬ (cs = (0 : Int32))) (hEL : EW Z aZ consts_1) :
    MetFree l x (head1 (Jvm.Cond.code x code maxLocals ret :: ws) room_1) (fun a U => a = #[(.int kv)] ∧ Z.Warmed39 U.vm ∧ U.heap = h0 ∧ CHv Z consts_1 U.vm h0) (fun _ _ _ _ _ => True) (fun _ U oc U' => ∃ v L, oc = .returned v ∧ Q0 h0 n0 v U'.heap L ∧ ReturnedEndW U oc U' L room_1.cells room_1.slots) := by
  refine MetFree.of_bodySF (plainFor_of_name pn_1) hisR ?_
  intro p e s m args below meth c s₁ Bd hml0 hP hK
  obtain ⟨rfl, hZ, hh, hCH⟩ := hP
  have hx := Bd.exec
  have hby := Bd.bytes
  have hml : c.maxLocals = 6 := hml0
  have hown : s.vm.findClass "com/example/novation/novation/model/SeriesKindChangesPinLaw" = some m.cls := findClass_of_methodNamed Bd.named
  have hnm := (name_of_methodNamed Bd.named Bd.method).1
  have X0 : Stand p l e room_1 s m #[(.int kv)] below meth c s₁ [] 0 0 := Stand.of_body Bd
  have e0 : s₁.heap = h0 := by rw [← hh, Bd.state]; rfl
  have N0 := Fr.nil n0
  have pre0 : ∀ t, Steps p.tables e below (s₁.setTop (mkF m 0 #[.val (.int kv), .unset, .unset, .unset, .unset, .unset] [])) t → Steps p.tables e below (s₁.setTop (entryFrame m #[(.int kv)] maxLocals)) t := fun t kt => castTop (ef_0 m kv) kt
  have hS0 : s.Since s.vm h0.size := (State.WarmedH.refl s).since _
  have pre517 : ∀ t, Steps p.tables e below (s₁.setTop (mkF m 7 #[.val (.int kv), .val (.int ((kv &&& (2147483647 : Int32)) - ((kv &&& (2147483647 : Int32)) / (3 : Int32)) * (3 : Int32))), .unset, .unset, .unset, .unset] [])) t → Steps p.tables e below (s₁.setTop (entryFrame m #[(.int kv)] maxLocals)) t := fun t kt => by
    refine pre0 _ ?_
    show Steps p.tables e below (s₁.setTop (mkF m 0 #[.val (.int kv), .unset, .unset, .unset, .unset, .unset] [])) _
    refine XS.iloadN X0.here hx rfl (hb hby at_0) rfl ?_
    show Steps p.tables e below (s₁.setTop (mkF m 1 #[.val (.int kv), .unset, .unset, .unset, .unset, .unset] [(.int kv)])) _
    refine X0.ldcInt hx hown (mvT hZ (hw _ (List.mem_of_getElem? (i := 0) rfl))) (g := (mkF m 1 #[.val (.int kv), .unset, .unset, .unset, .unset, .unset] [(.int kv)])) rfl (hb hby at_1) _ ?_
    show Steps p.tables e below (s₁.setTop (mkF m 3 #[.val (.int kv), .unset, .unset, .unset, .unset, .unset] [(.int (2147483647 : Int32)), (.int kv)])) _
    refine XS.iand X0.here hx rfl (hb hby at_3) rfl ?_
    show Steps p.tables e below (s₁.setTop (mkF m 4 #[.val (.int kv), .unset, .unset, .unset, .unset, .unset] [(.int (kv &&& (2147483647 : Int32)))])) _
    refine XS.iconst X0.here hx rfl (hb hby at_4) ?_
    show Steps p.tables e below (s₁.setTop (mkF m 5 #[.val (.int kv), .unset, .unset, .unset, .unset, .unset] [(.int (3 : Int32)), (.int (kv &&& (2147483647 : Int32)))])) _
    refine XS.irem X0.here hx rfl (hb hby at_5) rfl (by decide) ?_
    show Steps p.tables e below (s₁.setTop (mkF m 6 #[.val (.int kv), .unset, .unset, .unset, .unset, .unset] [(.int ((kv &&& (2147483647 : Int32)) - ((kv &&& (2147483647 : Int32)) / (3 : Int32)) * (3 : Int32)))])) _
    refine XS.istoreN X0.here hx rfl (hb hby at_6) rfl (l' := #[.val (.int kv), .val (.int ((kv &&& (2147483647 : Int32)) - ((kv &&& (2147483647 : Int32)) / (3 : Int32)) * (3 : Int32))), .unset, .unset, .unset, .unset]) rfl ?_
    show Steps p.tables e below (s₁.setTop (mkF m 7 #[.val (.int kv), .val (.int ((kv &&& (2147483647 : Int32)) - ((kv &&& (2147483647 : Int32)) / (3 : Int32)) * (3 : Int32))), .unset, .unset, .unset, .unset] [])) _
    exact kt
  obtain ⟨iv, e_iv, hiv⟩ := own_three kv
  have pre518 : ∀ t, Steps p.tables e below (s₁.setTop (mkF m 7 #[.val (.int kv), .val (.int iv), .unset, .unset, .unset, .unset] [])) t → Steps p.tables e below (s₁.setTop (entryFrame m #[(.int kv)] maxLocals)) t := by rw [e_iv]; exact pre517
  rcases hiv with hiv | hiv | hiv
  · have pre519 : ∀ t, Steps p.tables e below (s₁.setTop (mkF m 7 #[.val (.int kv), .val (.int (0 : Int32)), .unset, .unset, .unset, .unset] [])) t → Steps p.tables e below (s₁.setTop (entryFrame m #[(.int kv)] maxLocals)) t := by rw [← hiv]; exact pre518
    have pre520 : ∀ t, Steps p.tables e below (s₁.setTop (mkF m 8 #[.val (.int kv), .val (.int (0 : Int32)), .unset, .unset, .unset, .unset] [(.int (0 : Int32))])) t → Steps p.tables e below (s₁.setTop (entryFrame m #[(.int kv)] maxLocals)) t := fun t kt => by
      refine pre519 _ ?_
      show Steps p.tables e below (s₁.setTop (mkF m 7 #[.val (.int kv), .val (.int (0 : Int32)), .unset, .unset, .unset, .unset] [])) _
      refine XS.iloadN X0.here hx rfl (hb hby at_7) rfl ?_
      show Steps p.tables e below (s₁.setTop (mkF m 8 #[.val (.int kv), .val (.int (0 : Int32)), .unset, .unset, .unset, .unset] [(.int (0 : Int32))])) _
      exact kt
    obtain ⟨v521, _, ⟨T521, L521, k521, n521⟩, -, X521, ⟨Lc521, hQ521, l521, y521, z521⟩, st521⟩ := Jvm.LawKit.callS X0 hx (y := (⟨"com/example/novation/novation/model/SeriesKindChangesPinLaw", "pick", "(I)Lcom/example/novation/novation/model/SeriesKind;"⟩ : MethodName)) hown (mvT hZ (hw _ (List.mem_of_getElem? (i := 1) rfl))) (mvT hZ (hw _ (List.mem_of_getElem? (i := 2) rfl))) (mvT hZ (hw _ (List.mem_of_getElem? (i := 3) rfl))) (mvT hZ (hw _ (List.mem_of_getElem? (i := 4) rfl))) (by decide) (backOf (W := 0) (rm1_p l Z aZ hw [] wP  h0 n0 Z0 S_wP) hZ (hw _ (List.mem_of_getElem? (i := 4) rfl)) (hw _ (List.mem_of_getElem? (i := 3) rfl)) (by decide) (by decide)) (g := (mkF m 8 #[.val (.int kv), .val (.int (0 : Int32)), .unset, .unset, .unset, .unset] [(.int (0 : Int32))])) rfl (by rw [hml]; rfl) (argsL := [(.int (0 : Int32))]) (rest := []) (lenOf pd_0 rfl) rfl (by show 2 * 0 + _ ≤ _; exact Nat.le_of_eq rfl) (hb hby at_8) (fun _ _ => ⟨rfl, e0, (by decide : 0 + 0 ≤ _), (by decide : 0 + 0 ≤ _)⟩)
    dsimp only [Pt.U, Pt.locs, Pt.cells, Pt.slots] at X521 l521 y521 z521 st521 hQ521
    rw [l521, y521, z521] at X521
    clear l521 y521 z521
    obtain ⟨vq521, N521q, e521⟩ := hQ521
    rw [vq521] at st521
    have N521 := Fr.app N0 N521q
    have pre521 : ∀ t, Steps p.tables e below (T521.setTop (mkF m 11 #[.val (.int kv), .val (.int (0 : Int32)), .unset, .unset, .unset, .unset] [(.ref wP)])) t → Steps p.tables e below (s₁.setTop (entryFrame m #[(.int kv)] maxLocals)) t := fun t kt => pre520 _ (st521 t kt)
    have pre522 : ∀ t, Steps p.tables e below (T521.setTop (mkF m 13 #[.val (.int kv), .val (.int (0 : Int32)), .val (.ref wP), .unset, .unset, .unset] [(.ref wP)])) t → Steps p.tables e below (s₁.setTop (entryFrame m #[(.int kv)] maxLocals)) t := fun t kt => by
      refine pre521 _ ?_
      show Steps p.tables e below (T521.setTop (mkF m 11 #[.val (.int kv), .val (.int (0 : Int32)), .unset, .unset, .unset, .unset] [(.ref wP)])) _
      refine XS.astoreN X521.here hx rfl (hb hby at_11) rfl rfl (l' := #[.val (.int kv), .val (.int (0 : Int32)), .val (.ref wP), .unset, .unset, .unset]) rfl ?_
      show Steps p.tables e below (T521.setTop (mkF m 12 #[.val (.int kv), .val (.int (0 : Int32)), .val (.ref wP), .unset, .unset, .unset] [])) _
      refine XS.aloadN X521.here hx rfl (hb hby at_12) rfl rfl ?_
      show Steps p.tables e below (T521.setTop (mkF m 13 #[.val (.int kv), .val (.int (0 : Int32)), .val (.ref wP), .unset, .unset, .unset] [(.ref wP)])) _
      exact kt
    obtain ⟨cq523, kq523, q523a, q523b, q523c⟩ := isOf hZ e521 E_wP
    obtain ⟨v523, _, ⟨T523, L523, k523, n523⟩, -, X523, hS523, hg523, ⟨Lc523, hQ523, l523, y523, z523, CH523⟩, st523⟩ := X521.virtualBackS hx (y := (⟨"com/example/novation/novation/model/SeriesKind", "changes", "()Ljava/lang/String;"⟩ : MethodName)) (z := (⟨"com/example/novation/novation/model/SeriesKind", "changes", "()Ljava/lang/String;"⟩ : MethodName)) hown (mvT hZ (hw _ (List.mem_of_getElem? (i := 8) rfl))) (mvT hZ (hw _ (List.mem_of_getElem? (i := 9) rfl))) (notFace_of_selects (args := #[]) (mvT hZ (hw _ (List.mem_of_getElem? (i := 11) rfl)))) (mvT hZ (hw _ (List.mem_of_getElem? (i := 11) rfl))) (mvT hZ (hw _ (List.mem_of_getElem? (i := 10) rfl))) (by decide) (backOfSH (s := s) (vm0 := s.vm) (EL := consts_1) (W := 0) (rm2_1 l Z aZ hw [] wP h0 n0 Z0 F_wP hEL) hZ (hw _ (List.mem_of_getElem? (i := 12) rfl)) (hw _ (List.mem_of_getElem? (i := 6) rfl)) (by decide) (by decide) hEL hCH) q523a q523c (g := (mkF m 13 #[.val (.int kv), .val (.int (0 : Int32)), .val (.ref wP), .unset, .unset, .unset] [(.ref wP)])) rfl (by rw [hml]; rfl) (Steps.refl _) (argsL := []) (rest := []) (lenOf pd_1 rfl) rfl (by show 2 * 0 + _ ≤ _; exact Nat.le_of_eq rfl) (hb hby at_13) (fun _ _ => ⟨rfl, e521, (by decide : 0 + 2 ≤ _), (by decide : 0 + 56 ≤ _)⟩)
    dsimp only [Pt.U, Pt.locs, Pt.cells, Pt.slots] at X523 l523 y523 z523 st523 hQ523 hS523 CH523
    rw [l523, y523, z523] at X523
    clear l523 y523 z523
    obtain ⟨sa523, sb523, kb523, vq523, N523q, E523, Ea523, Ca523, Va523, Aa523⟩ := hQ523
    rw [vq523] at st523
    have N523 := Fr.app N521 N523q
    have hZ : Z.Warmed39 (s.setVm T523.vm).vm := State.Warmed39.trans (t := s) hZ hS523.1
    have hown : (s.setVm T523.vm).vm.findClass "com/example/novation/novation/model/SeriesKindChangesPinLaw" = some m.cls := (hS523.1.alike.findClass _ _).trans hown
    have CHq523 := CH523.1
    obtain ⟨h523, eh523⟩ : ∃ z, T523.heap = z := ⟨_, rfl⟩
    rw [eh523] at E523 Ea523 Ca523 Va523 Aa523 CHq523
    have F523_0 := S_wP.ext E523
    have F523_1 := E_wP.ext E523
    have F523_2 := F_wP.ext E523
    have F523_3 := S_wR.ext E523
    have F523_4 := E_wR.ext E523
    have F523_5 := F_wR.ext E523
    have F523_6 := S_wN.ext E523
    have F523_7 := E_wN.ext E523
    have F523_8 := F_wN.ext E523
    have F523_9 := S_c.ext E523
    have Zs523 : n0 ≤ h523.size := Nat.le_trans Z0 E523.1
    have pre523 : ∀ t, Steps p.tables e below (T523.setTop (mkF m 16 #[.val (.int kv), .val (.int (0 : Int32)), .val (.ref wP), .unset, .unset, .unset] [(.ref sa523)])) t → Steps p.tables e below (s₁.setTop (entryFrame m #[(.int kv)] maxLocals)) t := fun t kt => pre522 _ (st523.trans kt)
    have pre524 : ∀ t, Steps p.tables e below (T523.setTop (mkF m 18 #[.val (.int kv), .val (.int (0 : Int32)), .val (.ref wP), .val (.ref sa523), .unset, .unset] [(.ref sa523)])) t → Steps p.tables e below (s₁.setTop (entryFrame m #[(.int kv)] maxLocals)) t := fun t kt => by
      refine pre523 _ ?_
      show Steps p.tables e below (T523.setTop (mkF m 16 #[.val (.int kv), .val (.int (0 : Int32)), .val (.ref wP), .unset, .unset, .unset] [(.ref sa523)])) _
      refine XS.astoreN X523.here hx rfl (hb hby at_16) rfl rfl (l' := #[.val (.int kv), .val (.int (0 : Int32)), .val (.ref wP), .val (.ref sa523), .unset, .unset]) rfl ?_
      show Steps p.tables e below (T523.setTop (mkF m 17 #[.val (.int kv), .val (.int (0 : Int32)), .val (.ref wP), .val (.ref sa523), .unset, .unset] [])) _
      refine XS.aloadN X523.here hx rfl (hb hby at_17) rfl rfl ?_
      show Steps p.tables e below (T523.setTop (mkF m 18 #[.val (.int kv), .val (.int (0 : Int32)), .val (.ref wP), .val (.ref sa523), .unset, .unset] [(.ref sa523)])) _
      exact kt
    have pre525 : ∀ t, Steps p.tables e below (T523.setTop (mkF m 23 #[.val (.int kv), .val (.int (0 : Int32)), .val (.ref wP), .val (.ref sa523), .unset, .unset] [])) t → Steps p.tables e below (s₁.setTop (entryFrame m #[(.int kv)] maxLocals)) t := fun t kt => pre524 _ (XS.ifnonnullYes X523.here hx rfl (pc0 := 18) (pc' := 23) rfl (hb hby at_18) rfl (by decide) (by decide) kt)
    have pre526 : ∀ t, Steps p.tables e below (T523.setTop (mkF m 25 #[.val (.int kv), .val (.int (0 : Int32)), .val (.ref wP), .val (.ref sa523), .unset, .unset] [(.int (2 : Int32)), (.int (0 : Int32))])) t → Steps p.tables e below (s₁.setTop (entryFrame m #[(.int kv)] maxLocals)) t := fun t kt => by
      refine pre525 _ ?_
      show Steps p.tables e below (T523.setTop (mkF m 23 #[.val (.int kv), .val (.int (0 : Int32)), .val (.ref wP), .val (.ref sa523), .unset, .unset] [])) _
      refine XS.iloadN X523.here hx rfl (hb hby at_23) rfl ?_
      show Steps p.tables e below (T523.setTop (mkF m 24 #[.val (.int kv), .val (.int (0 : Int32)), .val (.ref wP), .val (.ref sa523), .unset, .unset] [(.int (0 : Int32))])) _
      refine XS.iconst X523.here hx rfl (hb hby at_24) ?_
      show Steps p.tables e below (T523.setTop (mkF m 25 #[.val (.int kv), .val (.int (0 : Int32)), .val (.ref wP), .val (.ref sa523), .unset, .unset] [(.int (2 : Int32)), (.int (0 : Int32))])) _
      exact kt
    have pre527 : ∀ t, Steps p.tables e below (T523.setTop (mkF m 35 #[.val (.int kv), .val (.int (0 : Int32)), .val (.ref wP), .val (.ref sa523), .unset, .unset] [])) t → Steps p.tables e below (s₁.setTop (entryFrame m #[(.int kv)] maxLocals)) t := fun t kt => by
      refine pre526 _ ?_
      show Steps p.tables e below (T523.setTop (mkF m 25 #[.val (.int kv), .val (.int (0 : Int32)), .val (.ref wP), .val (.ref sa523), .unset, .unset] [(.int (2 : Int32)), (.int (0 : Int32))])) _
      refine XS.icmpYes X523.here hx rfl (pc0 := 25) (pc' := 35) rfl (hb hby at_25) rfl (feq (by decide : ¬ ((0 : Int32) = (2 : Int32)))).2 (by decide) (by decide) ?_
      show Steps p.tables e below (T523.setTop (mkF m 35 #[.val (.int kv), .val (.int (0 : Int32)), .val (.ref wP), .val (.ref sa523), .unset, .unset] [])) _
      exact kt
    obtain ⟨sa529, T529, h529, k1_529, sb529, kb529, X529, e529, E529, hS529, hk529, hZ529, ho529, Ea529, Ca529, Va529, Aa529, la529, lb529, CH529, -, -, st529⟩ := ldcCH (s := s) (vm0 := T523.vm) X523 hx hZ hown (hw _ (List.mem_of_getElem? (i := 23) rfl)) (fun d hd => hw d (own_sa d hd)) eh523 hS523 (by rw [eh523]; exact Nat.le_refl _) hEL (List.mem_of_getElem? (i := 3) rfl) CHq523 own_tx13 (z := (13 : Int32)) (by decide) (by decide) (g := (mkF m 35 #[.val (.int kv), .val (.int (0 : Int32)), .val (.ref wP), .val (.ref sa523), .unset, .unset] [])) rfl (hb hby at_35) (n := 52) (by decide) (by decide) (by decide) (by decide)
    have hZ := hZ529
    have hown := ho529
    have CHq529 := CH529.1
    have R529 := (CHr.refl CHq523).trans CH529
    have F529_0 := F523_0.ext E529
    have F529_1 := F523_1.ext E529
    have F529_2 := F523_2.ext E529
    have F529_3 := F523_3.ext E529
    have F529_4 := F523_4.ext E529
    have F529_5 := F523_5.ext E529
    have F529_6 := F523_6.ext E529
    have F529_7 := F523_7.ext E529
    have F529_8 := F523_8.ext E529
    have F529_9 := F523_9.ext E529
    have F529_10 := Ea523.ext E529
    have F529_11 := Ca523.ext E529
    have F529_12 := Va523.ext E529
    have F529_13 := Aa523.ext E529
    have Zs529 : n0 ≤ h529.size := Nat.le_trans Zs523 E529.1
    have pre529 : ∀ t, Steps p.tables e below (T529.setTop (mkF m 37 #[.val (.int kv), .val (.int (0 : Int32)), .val (.ref wP), .val (.ref sa523), .unset, .unset] [(.ref sa529)])) t → Steps p.tables e below (s₁.setTop (entryFrame m #[(.int kv)] maxLocals)) t := fun t kt => pre527 _ (st529 t kt)
    have pre530 : ∀ t, Steps p.tables e below (T529.setTop (mkF m 40 #[.val (.int kv), .val (.int (0 : Int32)), .val (.ref wP), .val (.ref sa523), .val (.ref sa529), .unset] [(.ref sa523)])) t → Steps p.tables e below (s₁.setTop (entryFrame m #[(.int kv)] maxLocals)) t := fun t kt => by
      refine pre529 _ ?_
      show Steps p.tables e below (T529.setTop (mkF m 37 #[.val (.int kv), .val (.int (0 : Int32)), .val (.ref wP), .val (.ref sa523), .unset, .unset] [(.ref sa529)])) _
      refine XS.astore X529.here hx rfl (hb hby at_37) rfl rfl (l' := #[.val (.int kv), .val (.int (0 : Int32)), .val (.ref wP), .val (.ref sa523), .val (.ref sa529), .unset]) rfl ?_
      show Steps p.tables e below (T529.setTop (mkF m 39 #[.val (.int kv), .val (.int (0 : Int32)), .val (.ref wP), .val (.ref sa523), .val (.ref sa529), .unset] [])) _
      refine XS.aloadN X529.here hx rfl (hb hby at_39) rfl rfl ?_
      show Steps p.tables e below (T529.setTop (mkF m 40 #[.val (.int kv), .val (.int (0 : Int32)), .val (.ref wP), .val (.ref sa523), .val (.ref sa529), .unset] [(.ref sa523)])) _
      exact kt
    obtain ⟨sa531, T531, h531, k1_531, sb531, kb531, X531, e531, E531, hS531, hk531, hZ531, ho531, Ea531, Ca531, Va531, Aa531, la531, lb531, CH531, -, -, st531⟩ := ldcCH (s := s) (vm0 := T529.vm) X529 hx hZ hown (hw _ (List.mem_of_getElem? (i := 23) rfl)) (fun d hd => hw d (own_sa d hd)) e529 hS529 hk529 hEL (List.mem_of_getElem? (i := 3) rfl) CHq529 own_tx13 (z := (13 : Int32)) (by decide) (by decide) (g := (mkF m 40 #[.val (.int kv), .val (.int (0 : Int32)), .val (.ref wP), .val (.ref sa523), .val (.ref sa529), .unset] [(.ref sa523)])) rfl (hb hby at_40) (n := 52) (by decide) (by decide) (by decide) (by decide)
    have hZ := hZ531
    have hown := ho531
    have CHq531 := CH531.1
    have R531 := (R529).trans CH531
    have F531_0 := F529_0.ext E531
    have F531_1 := F529_1.ext E531
    have F531_2 := F529_2.ext E531
    have F531_3 := F529_3.ext E531
    have F531_4 := F529_4.ext E531
    have F531_5 := F529_5.ext E531
    have F531_6 := F529_6.ext E531
    have F531_7 := F529_7.ext E531
    have F531_8 := F529_8.ext E531
    have F531_9 := F529_9.ext E531
    have F531_10 := F529_10.ext E531
    have F531_11 := F529_11.ext E531
    have F531_12 := F529_12.ext E531
    have F531_13 := F529_13.ext E531
    have F531_14 := Ea529.ext E531
    have F531_15 := Ca529.ext E531
    have F531_16 := Va529.ext E531
    have F531_17 := Aa529.ext E531
    have Zs531 : n0 ≤ h531.size := Nat.le_trans Zs529 E531.1
    have pre531 : ∀ t, Steps p.tables e below (T531.setTop (mkF m 42 #[.val (.int kv), .val (.int (0 : Int32)), .val (.ref wP), .val (.ref sa523), .val (.ref sa529), .unset] [(.ref sa531), (.ref sa523)])) t → Steps p.tables e below (s₁.setTop (entryFrame m #[(.int kv)] maxLocals)) t := fun t kt => pre530 _ (st531 t kt)
    obtain ⟨cq533, kq533, q533a, q533b, q533c⟩ := isOf hZ e531 F531_10
    obtain ⟨v533, _, ⟨T533, L533, k533, n533⟩, -, X533, ⟨Lc533, hQ533, l533, y533, z533⟩, st533⟩ := X531.virtualBack hx (y := (⟨"java/lang/String", "equals", "(Ljava/lang/Object;)Z"⟩ : MethodName)) (z := (⟨"java/lang/String", "equals", "(Ljava/lang/Object;)Z"⟩ : MethodName)) hown (mvT hZ (hw _ (List.mem_of_getElem? (i := 24) rfl))) (mvT hZ (hw _ (List.mem_of_getElem? (i := 25) rfl))) (notFace_of_selects (args := #[]) (mvT hZ (hw _ (List.mem_of_getElem? (i := 27) rfl)))) (mvT hZ (hw _ (List.mem_of_getElem? (i := 27) rfl))) (mvT hZ (hw _ (List.mem_of_getElem? (i := 26) rfl))) (by decide) (backOf (W := 0) (rm3_a l Z aZ hw [] sa523 sa531 sb523 sb531 kb523 kb531 cs  h531 n0 Zs531 Ea531 F531_11 F531_12 F531_13 Ca531 Va531 Aa531 F531_9 hcs) hZ (hw _ (List.mem_of_getElem? (i := 28) rfl)) (hw _ (List.mem_of_getElem? (i := 16) rfl)) (by decide) (by decide)) q533a q533c (g := (mkF m 42 #[.val (.int kv), .val (.int (0 : Int32)), .val (.ref wP), .val (.ref sa523), .val (.ref sa529), .unset] [(.ref sa531), (.ref sa523)])) rfl (by rw [hml]; rfl) (Steps.refl _) (argsL := [(.ref sa531)]) (rest := []) (lenOf pd_2 rfl) rfl (by show 2 * 0 + _ ≤ _; exact Nat.le_of_eq rfl) (hb hby at_42) (fun _ _ => ⟨rfl, e531, (by decide : 6 + 0 ≤ _), (by decide : 168 + 0 ≤ _)⟩)
    dsimp only [Pt.U, Pt.locs, Pt.cells, Pt.slots] at X533 l533 y533 z533 st533 hQ533
    rw [l533, y533, z533] at X533
    clear l533 y533 z533
    obtain ⟨vq533, N533q, e533⟩ := hQ533
    rw [vq533] at st533
    have N533 := Fr.app N523 N533q
    have pre533 : ∀ t, Steps p.tables e below (T533.setTop (mkF m 45 #[.val (.int kv), .val (.int (0 : Int32)), .val (.ref wP), .val (.ref sa523), .val (.ref sa529), .unset] [(.int (1 : Int32))])) t → Steps p.tables e below (s₁.setTop (entryFrame m #[(.int kv)] maxLocals)) t := fun t kt => pre531 _ (st533.trans kt)
    have pre534 : ∀ t, Steps p.tables e below (T533.setTop (mkF m 50 #[.val (.int kv), .val (.int (0 : Int32)), .val (.ref wP), .val (.ref sa523), .val (.ref sa529), .val (.int (1 : Int32))] [(.ref sa529), (.ref sa523)])) t → Steps p.tables e below (s₁.setTop (entryFrame m #[(.int kv)] maxLocals)) t := fun t kt => by
      refine pre533 _ ?_
      show Steps p.tables e below (T533.setTop (mkF m 45 #[.val (.int kv), .val (.int (0 : Int32)), .val (.ref wP), .val (.ref sa523), .val (.ref sa529), .unset] [(.int (1 : Int32))])) _
      refine XS.istore X533.here hx rfl (hb hby at_45) rfl (l' := #[.val (.int kv), .val (.int (0 : Int32)), .val (.ref wP), .val (.ref sa523), .val (.ref sa529), .val (.int (1 : Int32))]) rfl ?_
      show Steps p.tables e below (T533.setTop (mkF m 47 #[.val (.int kv), .val (.int (0 : Int32)), .val (.ref wP), .val (.ref sa523), .val (.ref sa529), .val (.int (1 : Int32))] [])) _
      refine XS.aloadN X533.here hx rfl (hb hby at_47) rfl rfl ?_
      show Steps p.tables e below (T533.setTop (mkF m 48 #[.val (.int kv), .val (.int (0 : Int32)), .val (.ref wP), .val (.ref sa523), .val (.ref sa529), .val (.int (1 : Int32))] [(.ref sa523)])) _
      refine XS.aload X533.here hx rfl (hb hby at_48) rfl rfl ?_
      show Steps p.tables e below (T533.setTop (mkF m 50 #[.val (.int kv), .val (.int (0 : Int32)), .val (.ref wP), .val (.ref sa523), .val (.ref sa529), .val (.int (1 : Int32))] [(.ref sa529), (.ref sa523)])) _
      exact kt
    obtain ⟨cq535, kq535, q535a, q535b, q535c⟩ := isOf hZ e533 F531_10
    obtain ⟨v535, _, ⟨T535, L535, k535, n535⟩, -, X535, ⟨Lc535, hQ535, l535, y535, z535⟩, st535⟩ := X533.virtualBack hx (y := (⟨"java/lang/String", "equals", "(Ljava/lang/Object;)Z"⟩ : MethodName)) (z := (⟨"java/lang/String", "equals", "(Ljava/lang/Object;)Z"⟩ : MethodName)) hown (mvT hZ (hw _ (List.mem_of_getElem? (i := 24) rfl))) (mvT hZ (hw _ (List.mem_of_getElem? (i := 25) rfl))) (notFace_of_selects (args := #[]) (mvT hZ (hw _ (List.mem_of_getElem? (i := 27) rfl)))) (mvT hZ (hw _ (List.mem_of_getElem? (i := 27) rfl))) (mvT hZ (hw _ (List.mem_of_getElem? (i := 26) rfl))) (by decide) (backOf (W := 0) (rm3_a l Z aZ hw [] sa523 sa529 sb523 sb529 kb523 kb529 cs  h531 n0 Zs531 F531_14 F531_11 F531_12 F531_13 F531_15 F531_16 F531_17 F531_9 hcs) hZ (hw _ (List.mem_of_getElem? (i := 28) rfl)) (hw _ (List.mem_of_getElem? (i := 16) rfl)) (by decide) (by decide)) q535a q535c (g := (mkF m 50 #[.val (.int kv), .val (.int (0 : Int32)), .val (.ref wP), .val (.ref sa523), .val (.ref sa529), .val (.int (1 : Int32))] [(.ref sa529), (.ref sa523)])) rfl (by rw [hml]; rfl) (Steps.refl _) (argsL := [(.ref sa529)]) (rest := []) (lenOf pd_2 rfl) rfl (by show 2 * 0 + _ ≤ _; exact Nat.le_of_eq rfl) (hb hby at_50) (fun _ _ => ⟨rfl, e533, (by decide : 6 + 0 ≤ _), (by decide : 168 + 0 ≤ _)⟩)
    dsimp only [Pt.U, Pt.locs, Pt.cells, Pt.slots] at X535 l535 y535 z535 st535 hQ535
    rw [l535, y535, z535] at X535
    clear l535 y535 z535
    obtain ⟨vq535, N535q, e535⟩ := hQ535
    rw [vq535] at st535
    have N535 := Fr.app N533 N535q
    have pre535 : ∀ t, Steps p.tables e below (T535.setTop (mkF m 53 #[.val (.int kv), .val (.int (0 : Int32)), .val (.ref wP), .val (.ref sa523), .val (.ref sa529), .val (.int (1 : Int32))] [(.int (1 : Int32))])) t → Steps p.tables e below (s₁.setTop (entryFrame m #[(.int kv)] maxLocals)) t := fun t kt => pre534 _ (st535.trans kt)
    have pre537 : ∀ t, Steps p.tables e below (T535.setTop (mkF m 56 #[.val (.int kv), .val (.int (0 : Int32)), .val (.ref wP), .val (.ref sa523), .val (.ref sa529), .val (.int (1 : Int32))] [])) t → Steps p.tables e below (s₁.setTop (entryFrame m #[(.int kv)] maxLocals)) t := fun t kt => by
      refine pre535 _ ?_
      show Steps p.tables e below (T535.setTop (mkF m 53 #[.val (.int kv), .val (.int (0 : Int32)), .val (.ref wP), .val (.ref sa523), .val (.ref sa529), .val (.int (1 : Int32))] [(.int (1 : Int32))])) _
      refine XS.ifNo X535.here hx rfl (hb hby at_53) rfl ((if0 _ _).trans (feq (by decide : ¬ ((1 : Int32) = (0 : Int32)))).1) ?_
      show Steps p.tables e below (T535.setTop (mkF m 56 #[.val (.int kv), .val (.int (0 : Int32)), .val (.ref wP), .val (.ref sa523), .val (.ref sa529), .val (.int (1 : Int32))] [])) _
      exact kt
    have pre538 : ∀ t, Steps p.tables e below (T535.setTop (mkF m 59 #[.val (.int kv), .val (.int (0 : Int32)), .val (.ref wP), .val (.ref sa523), .val (.ref sa529), .val (.int (1 : Int32))] [(.ref wP), (.int (1 : Int32))])) t → Steps p.tables e below (s₁.setTop (entryFrame m #[(.int kv)] maxLocals)) t := fun t kt => by
      refine pre537 _ ?_
      show Steps p.tables e below (T535.setTop (mkF m 56 #[.val (.int kv), .val (.int (0 : Int32)), .val (.ref wP), .val (.ref sa523), .val (.ref sa529), .val (.int (1 : Int32))] [])) _
      refine XS.iload X535.here hx rfl (hb hby at_56) rfl ?_
      show Steps p.tables e below (T535.setTop (mkF m 58 #[.val (.int kv), .val (.int (0 : Int32)), .val (.ref wP), .val (.ref sa523), .val (.ref sa529), .val (.int (1 : Int32))] [(.int (1 : Int32))])) _
      refine XS.aloadN X535.here hx rfl (hb hby at_58) rfl rfl ?_
      show Steps p.tables e below (T535.setTop (mkF m 59 #[.val (.int kv), .val (.int (0 : Int32)), .val (.ref wP), .val (.ref sa523), .val (.ref sa529), .val (.int (1 : Int32))] [(.ref wP), (.int (1 : Int32))])) _
      exact kt
    obtain ⟨cq539, kq539, q539a, q539b, q539c⟩ := isOf hZ e535 F531_1
    obtain ⟨v539, _, ⟨T539, L539, k539, n539⟩, -, X539, ⟨Lc539, hQ539, l539, y539, z539⟩, st539⟩ := X535.virtualBack hx (y := (⟨"com/example/novation/novation/model/SeriesKind", "prices", "()Z"⟩ : MethodName)) (z := (⟨"com/example/novation/novation/model/SeriesKind", "prices", "()Z"⟩ : MethodName)) hown (mvT hZ (hw _ (List.mem_of_getElem? (i := 29) rfl))) (mvT hZ (hw _ (List.mem_of_getElem? (i := 30) rfl))) (notFace_of_selects (args := #[]) (mvT hZ (hw _ (List.mem_of_getElem? (i := 32) rfl)))) (mvT hZ (hw _ (List.mem_of_getElem? (i := 32) rfl))) (mvT hZ (hw _ (List.mem_of_getElem? (i := 31) rfl))) (by decide) (backOf (W := 1) (rm4_1 l Z aZ hw [] wP  h531 n0 Zs531 F531_2) hZ (hw _ (List.mem_of_getElem? (i := 33) rfl)) (hw _ (List.mem_of_getElem? (i := 6) rfl)) (by decide) (by decide)) q539a q539c (g := (mkF m 59 #[.val (.int kv), .val (.int (0 : Int32)), .val (.ref wP), .val (.ref sa523), .val (.ref sa529), .val (.int (1 : Int32))] [(.ref wP), (.int (1 : Int32))])) rfl (by rw [hml]; rfl) (Steps.refl _) (argsL := []) (rest := [(.int (1 : Int32))]) (lenOf pd_3 rfl) rfl (by show 2 * 0 + _ ≤ _; exact Nat.le_of_eq rfl) (hb hby at_59) (fun _ _ => ⟨rfl, e535, (by decide : 6 + 0 ≤ _), (by decide : 168 + 0 ≤ _)⟩)
    dsimp only [Pt.U, Pt.locs, Pt.cells, Pt.slots] at X539 l539 y539 z539 st539 hQ539
    rw [l539, y539, z539] at X539
    clear l539 y539 z539
    obtain ⟨vq539, N539q, e539⟩ := hQ539
    rw [vq539] at st539
    have N539 := Fr.app N535 N539q
    have pre539 : ∀ t, Steps p.tables e below (T539.setTop (mkF m 62 #[.val (.int kv), .val (.int (0 : Int32)), .val (.ref wP), .val (.ref sa523), .val (.ref sa529), .val (.int (1 : Int32))] [(.int (1 : Int32)), (.int (1 : Int32))])) t → Steps p.tables e below (s₁.setTop (entryFrame m #[(.int kv)] maxLocals)) t := fun t kt => pre538 _ (st539.trans kt)
    have pre541 : ∀ t, Steps p.tables e below (T539.setTop (mkF m 65 #[.val (.int kv), .val (.int (0 : Int32)), .val (.ref wP), .val (.ref sa523), .val (.ref sa529), .val (.int (1 : Int32))] [])) t → Steps p.tables e below (s₁.setTop (entryFrame m #[(.int kv)] maxLocals)) t := fun t kt => by
      refine pre539 _ ?_
      show Steps p.tables e below (T539.setTop (mkF m 62 #[.val (.int kv), .val (.int (0 : Int32)), .val (.ref wP), .val (.ref sa523), .val (.ref sa529), .val (.int (1 : Int32))] [(.int (1 : Int32)), (.int (1 : Int32))])) _
      refine XS.icmpNo X539.here hx rfl (hb hby at_62) rfl (teq (by decide : (1 : Int32) = (1 : Int32))).2 ?_
      show Steps p.tables e below (T539.setTop (mkF m 65 #[.val (.int kv), .val (.int (0 : Int32)), .val (.ref wP), .val (.ref sa523), .val (.ref sa529), .val (.int (1 : Int32))] [])) _
      exact kt
    have pre542 : ∀ t, Steps p.tables e below (T539.setTop (mkF m 70 #[.val (.int kv), .val (.int (0 : Int32)), .val (.ref wP), .val (.ref sa523), .val (.ref sa529), .val (.int (1 : Int32))] [(.int (1 : Int32))])) t → Steps p.tables e below (s₁.setTop (entryFrame m #[(.int kv)] maxLocals)) t := fun t kt => by
      refine pre541 _ ?_
      show Steps p.tables e below (T539.setTop (mkF m 65 #[.val (.int kv), .val (.int (0 : Int32)), .val (.ref wP), .val (.ref sa523), .val (.ref sa529), .val (.int (1 : Int32))] [])) _
      refine XS.iconst X539.here hx rfl (hb hby at_65) ?_
      show Steps p.tables e below (T539.setTop (mkF m 66 #[.val (.int kv), .val (.int (0 : Int32)), .val (.ref wP), .val (.ref sa523), .val (.ref sa529), .val (.int (1 : Int32))] [(.int (1 : Int32))])) _
      refine XS.goto X539.here hx rfl (pc0 := 66) (pc' := 70) rfl (hb hby at_66) (by decide) (by decide) ?_
      show Steps p.tables e below (T539.setTop (mkF m 70 #[.val (.int kv), .val (.int (0 : Int32)), .val (.ref wP), .val (.ref sa523), .val (.ref sa529), .val (.int (1 : Int32))] [(.int (1 : Int32))])) _
      exact kt
    obtain ⟨fs, hr, hrun, hended, hEnd⟩ := X539.leaveW hS531 (by rw [e539]; exact hk531) (v := some (.int (1 : Int32))) (fun h => by rw [Bd.returns] at h; cases h)
    refine ⟨_, _, pre542 _ ?_, hrun, hended, _, _, rfl, ?_, own_rmono hEnd (by decide) (by decide)⟩
    · show Steps p.tables e below (T539.setTop (mkF m 70 #[.val (.int kv), .val (.int (0 : Int32)), .val (.ref wP), .val (.ref sa523), .val (.ref sa529), .val (.int (1 : Int32))] [(.int (1 : Int32))])) _
      exact retN X539 hx (t := .boolean) Bd.returns (by simp) (hb hby at_70) hr
    · exact ⟨rfl, N539⟩
  · have pre543 : ∀ t, Steps p.tables e below (s₁.setTop (mkF m 7 #[.val (.int kv), .val (.int (1 : Int32)), .unset, .unset, .unset, .unset] [])) t → Steps p.tables e below (s₁.setTop (entryFrame m #[(.int kv)] maxLocals)) t := by rw [← hiv]; exact pre518
    have pre544 : ∀ t, Steps p.tables e below (s₁.setTop (mkF m 8 #[.val (.int kv), .val (.int (1 : Int32)), .unset, .unset, .unset, .unset] [(.int (1 : Int32))])) t → Steps p.tables e below (s₁.setTop (entryFrame m #[(.int kv)] maxLocals)) t := fun t kt => by
      refine pre543 _ ?_
      show Steps p.tables e below (s₁.setTop (mkF m 7 #[.val (.int kv), .val (.int (1 : Int32)), .unset, .unset, .unset, .unset] [])) _
      refine XS.iloadN X0.here hx rfl (hb hby at_7) rfl ?_
      show Steps p.tables e below (s₁.setTop (mkF m 8 #[.val (.int kv), .val (.int (1 : Int32)), .unset, .unset, .unset, .unset] [(.int (1 : Int32))])) _
      exact kt
    obtain ⟨v545, _, ⟨T545, L545, k545, n545⟩, -, X545, ⟨Lc545, hQ545, l545, y545, z545⟩, st545⟩ := Jvm.LawKit.callS X0 hx (y := (⟨"com/example/novation/novation/model/SeriesKindChangesPinLaw", "pick", "(I)Lcom/example/novation/novation/model/SeriesKind;"⟩ : MethodName)) hown (mvT hZ (hw _ (List.mem_of_getElem? (i := 1) rfl))) (mvT hZ (hw _ (List.mem_of_getElem? (i := 2) rfl))) (mvT hZ (hw _ (List.mem_of_getElem? (i := 3) rfl))) (mvT hZ (hw _ (List.mem_of_getElem? (i := 4) rfl))) (by decide) (backOf (W := 0) (rm1_r l Z aZ hw [] wR  h0 n0 Z0 S_wR) hZ (hw _ (List.mem_of_getElem? (i := 4) rfl)) (hw _ (List.mem_of_getElem? (i := 3) rfl)) (by decide) (by decide)) (g := (mkF m 8 #[.val (.int kv), .val (.int (1 : Int32)), .unset, .unset, .unset, .unset] [(.int (1 : Int32))])) rfl (by rw [hml]; rfl) (argsL := [(.int (1 : Int32))]) (rest := []) (lenOf pd_0 rfl) rfl (by show 2 * 0 + _ ≤ _; exact Nat.le_of_eq rfl) (hb hby at_8) (fun _ _ => ⟨rfl, e0, (by decide : 0 + 0 ≤ _), (by decide : 0 + 0 ≤ _)⟩)
    dsimp only [Pt.U, Pt.locs, Pt.cells, Pt.slots] at X545 l545 y545 z545 st545 hQ545
    rw [l545, y545, z545] at X545
    clear l545 y545 z545
    obtain ⟨vq545, N545q, e545⟩ := hQ545
    rw [vq545] at st545
    have N545 := Fr.app N0 N545q
    have pre545 : ∀ t, Steps p.tables e below (T545.setTop (mkF m 11 #[.val (.int kv), .val (.int (1 : Int32)), .unset, .unset, .unset, .unset] [(.ref wR)])) t → Steps p.tables e below (s₁.setTop (entryFrame m #[(.int kv)] maxLocals)) t := fun t kt => pre544 _ (st545 t kt)
    have pre546 : ∀ t, Steps p.tables e below (T545.setTop (mkF m 13 #[.val (.int kv), .val (.int (1 : Int32)), .val (.ref wR), .unset, .unset, .unset] [(.ref wR)])) t → Steps p.tables e below (s₁.setTop (entryFrame m #[(.int kv)] maxLocals)) t := fun t kt => by
      refine pre545 _ ?_
      show Steps p.tables e below (T545.setTop (mkF m 11 #[.val (.int kv), .val (.int (1 : Int32)), .unset, .unset, .unset, .unset] [(.ref wR)])) _
      refine XS.astoreN X545.here hx rfl (hb hby at_11) rfl rfl (l' := #[.val (.int kv), .val (.int (1 : Int32)), .val (.ref wR), .unset, .unset, .unset]) rfl ?_
      show Steps p.tables e below (T545.setTop (mkF m 12 #[.val (.int kv), .val (.int (1 : Int32)), .val (.ref wR), .unset, .unset, .unset] [])) _
      refine XS.aloadN X545.here hx rfl (hb hby at_12) rfl rfl ?_
      show Steps p.tables e below (T545.setTop (mkF m 13 #[.val (.int kv), .val (.int (1 : Int32)), .val (.ref wR), .unset, .unset, .unset] [(.ref wR)])) _
      exact kt
    obtain ⟨cq547, kq547, q547a, q547b, q547c⟩ := isOf hZ e545 E_wR
    obtain ⟨v547, _, ⟨T547, L547, k547, n547⟩, -, X547, hS547, hg547, ⟨Lc547, hQ547, l547, y547, z547, CH547⟩, st547⟩ := X545.virtualBackS hx (y := (⟨"com/example/novation/novation/model/SeriesKind", "changes", "()Ljava/lang/String;"⟩ : MethodName)) (z := (⟨"com/example/novation/novation/model/SeriesKind", "changes", "()Ljava/lang/String;"⟩ : MethodName)) hown (mvT hZ (hw _ (List.mem_of_getElem? (i := 8) rfl))) (mvT hZ (hw _ (List.mem_of_getElem? (i := 9) rfl))) (notFace_of_selects (args := #[]) (mvT hZ (hw _ (List.mem_of_getElem? (i := 52) rfl)))) (mvT hZ (hw _ (List.mem_of_getElem? (i := 52) rfl))) (mvT hZ (hw _ (List.mem_of_getElem? (i := 10) rfl))) (by decide) (backOfSH (s := s) (vm0 := s.vm) (EL := consts_1) (W := 0) (rm2_1 l Z aZ hw [] wR h0 n0 Z0 F_wR hEL) hZ (hw _ (List.mem_of_getElem? (i := 12) rfl)) (hw _ (List.mem_of_getElem? (i := 6) rfl)) (by decide) (by decide) hEL hCH) q547a q547c (g := (mkF m 13 #[.val (.int kv), .val (.int (1 : Int32)), .val (.ref wR), .unset, .unset, .unset] [(.ref wR)])) rfl (by rw [hml]; rfl) (Steps.refl _) (argsL := []) (rest := []) (lenOf pd_1 rfl) rfl (by show 2 * 0 + _ ≤ _; exact Nat.le_of_eq rfl) (hb hby at_13) (fun _ _ => ⟨rfl, e545, (by decide : 0 + 2 ≤ _), (by decide : 0 + 56 ≤ _)⟩)
    dsimp only [Pt.U, Pt.locs, Pt.cells, Pt.slots] at X547 l547 y547 z547 st547 hQ547 hS547 CH547
    rw [l547, y547, z547] at X547
    clear l547 y547 z547
    obtain ⟨sa547, sb547, kb547, vq547, N547q, E547, Ea547, Ca547, Va547, Aa547⟩ := hQ547
    rw [vq547] at st547
    have N547 := Fr.app N545 N547q
    have hZ : Z.Warmed39 (s.setVm T547.vm).vm := State.Warmed39.trans (t := s) hZ hS547.1
    have hown : (s.setVm T547.vm).vm.findClass "com/example/novation/novation/model/SeriesKindChangesPinLaw" = some m.cls := (hS547.1.alike.findClass _ _).trans hown
    have CHq547 := CH547.1
    obtain ⟨h547, eh547⟩ : ∃ z, T547.heap = z := ⟨_, rfl⟩
    rw [eh547] at E547 Ea547 Ca547 Va547 Aa547 CHq547
    have F547_0 := S_wP.ext E547
    have F547_1 := E_wP.ext E547
    have F547_2 := F_wP.ext E547
    have F547_3 := S_wR.ext E547
    have F547_4 := E_wR.ext E547
    have F547_5 := F_wR.ext E547
    have F547_6 := S_wN.ext E547
    have F547_7 := E_wN.ext E547
    have F547_8 := F_wN.ext E547
    have F547_9 := S_c.ext E547
    have Zs547 : n0 ≤ h547.size := Nat.le_trans Z0 E547.1
    have pre547 : ∀ t, Steps p.tables e below (T547.setTop (mkF m 16 #[.val (.int kv), .val (.int (1 : Int32)), .val (.ref wR), .unset, .unset, .unset] [(.ref sa547)])) t → Steps p.tables e below (s₁.setTop (entryFrame m #[(.int kv)] maxLocals)) t := fun t kt => pre546 _ (st547.trans kt)
    have pre548 : ∀ t, Steps p.tables e below (T547.setTop (mkF m 18 #[.val (.int kv), .val (.int (1 : Int32)), .val (.ref wR), .val (.ref sa547), .unset, .unset] [(.ref sa547)])) t → Steps p.tables e below (s₁.setTop (entryFrame m #[(.int kv)] maxLocals)) t := fun t kt => by
      refine pre547 _ ?_
      show Steps p.tables e below (T547.setTop (mkF m 16 #[.val (.int kv), .val (.int (1 : Int32)), .val (.ref wR), .unset, .unset, .unset] [(.ref sa547)])) _
      refine XS.astoreN X547.here hx rfl (hb hby at_16) rfl rfl (l' := #[.val (.int kv), .val (.int (1 : Int32)), .val (.ref wR), .val (.ref sa547), .unset, .unset]) rfl ?_
      show Steps p.tables e below (T547.setTop (mkF m 17 #[.val (.int kv), .val (.int (1 : Int32)), .val (.ref wR), .val (.ref sa547), .unset, .unset] [])) _
      refine XS.aloadN X547.here hx rfl (hb hby at_17) rfl rfl ?_
      show Steps p.tables e below (T547.setTop (mkF m 18 #[.val (.int kv), .val (.int (1 : Int32)), .val (.ref wR), .val (.ref sa547), .unset, .unset] [(.ref sa547)])) _
      exact kt
    have pre549 : ∀ t, Steps p.tables e below (T547.setTop (mkF m 23 #[.val (.int kv), .val (.int (1 : Int32)), .val (.ref wR), .val (.ref sa547), .unset, .unset] [])) t → Steps p.tables e below (s₁.setTop (entryFrame m #[(.int kv)] maxLocals)) t := fun t kt => pre548 _ (XS.ifnonnullYes X547.here hx rfl (pc0 := 18) (pc' := 23) rfl (hb hby at_18) rfl (by decide) (by decide) kt)
    have pre550 : ∀ t, Steps p.tables e below (T547.setTop (mkF m 25 #[.val (.int kv), .val (.int (1 : Int32)), .val (.ref wR), .val (.ref sa547), .unset, .unset] [(.int (2 : Int32)), (.int (1 : Int32))])) t → Steps p.tables e below (s₁.setTop (entryFrame m #[(.int kv)] maxLocals)) t := fun t kt => by
      refine pre549 _ ?_
      show Steps p.tables e below (T547.setTop (mkF m 23 #[.val (.int kv), .val (.int (1 : Int32)), .val (.ref wR), .val (.ref sa547), .unset, .unset] [])) _
      refine XS.iloadN X547.here hx rfl (hb hby at_23) rfl ?_
      show Steps p.tables e below (T547.setTop (mkF m 24 #[.val (.int kv), .val (.int (1 : Int32)), .val (.ref wR), .val (.ref sa547), .unset, .unset] [(.int (1 : Int32))])) _
      refine XS.iconst X547.here hx rfl (hb hby at_24) ?_
      show Steps p.tables e below (T547.setTop (mkF m 25 #[.val (.int kv), .val (.int (1 : Int32)), .val (.ref wR), .val (.ref sa547), .unset, .unset] [(.int (2 : Int32)), (.int (1 : Int32))])) _
      exact kt
    have pre551 : ∀ t, Steps p.tables e below (T547.setTop (mkF m 35 #[.val (.int kv), .val (.int (1 : Int32)), .val (.ref wR), .val (.ref sa547), .unset, .unset] [])) t → Steps p.tables e below (s₁.setTop (entryFrame m #[(.int kv)] maxLocals)) t := fun t kt => by
      refine pre550 _ ?_
      show Steps p.tables e below (T547.setTop (mkF m 25 #[.val (.int kv), .val (.int (1 : Int32)), .val (.ref wR), .val (.ref sa547), .unset, .unset] [(.int (2 : Int32)), (.int (1 : Int32))])) _
      refine XS.icmpYes X547.here hx rfl (pc0 := 25) (pc' := 35) rfl (hb hby at_25) rfl (feq (by decide : ¬ ((1 : Int32) = (2 : Int32)))).2 (by decide) (by decide) ?_
      show Steps p.tables e below (T547.setTop (mkF m 35 #[.val (.int kv), .val (.int (1 : Int32)), .val (.ref wR), .val (.ref sa547), .unset, .unset] [])) _
      exact kt
    obtain ⟨sa553, T553, h553, k1_553, sb553, kb553, X553, e553, E553, hS553, hk553, hZ553, ho553, Ea553, Ca553, Va553, Aa553, la553, lb553, CH553, -, -, st553⟩ := ldcCH (s := s) (vm0 := T547.vm) X547 hx hZ hown (hw _ (List.mem_of_getElem? (i := 23) rfl)) (fun d hd => hw d (own_sa d hd)) eh547 hS547 (by rw [eh547]; exact Nat.le_refl _) hEL (List.mem_of_getElem? (i := 3) rfl) CHq547 own_tx13 (z := (13 : Int32)) (by decide) (by decide) (g := (mkF m 35 #[.val (.int kv), .val (.int (1 : Int32)), .val (.ref wR), .val (.ref sa547), .unset, .unset] [])) rfl (hb hby at_35) (n := 52) (by decide) (by decide) (by decide) (by decide)
    have hZ := hZ553
    have hown := ho553
    have CHq553 := CH553.1
    have R553 := (CHr.refl CHq547).trans CH553
    have F553_0 := F547_0.ext E553
    have F553_1 := F547_1.ext E553
    have F553_2 := F547_2.ext E553
    have F553_3 := F547_3.ext E553
    have F553_4 := F547_4.ext E553
    have F553_5 := F547_5.ext E553
    have F553_6 := F547_6.ext E553
    have F553_7 := F547_7.ext E553
    have F553_8 := F547_8.ext E553
    have F553_9 := F547_9.ext E553
    have F553_10 := Ea547.ext E553
    have F553_11 := Ca547.ext E553
    have F553_12 := Va547.ext E553
    have F553_13 := Aa547.ext E553
    have Zs553 : n0 ≤ h553.size := Nat.le_trans Zs547 E553.1
    have pre553 : ∀ t, Steps p.tables e below (T553.setTop (mkF m 37 #[.val (.int kv), .val (.int (1 : Int32)), .val (.ref wR), .val (.ref sa547), .unset, .unset] [(.ref sa553)])) t → Steps p.tables e below (s₁.setTop (entryFrame m #[(.int kv)] maxLocals)) t := fun t kt => pre551 _ (st553 t kt)
    have pre554 : ∀ t, Steps p.tables e below (T553.setTop (mkF m 40 #[.val (.int kv), .val (.int (1 : Int32)), .val (.ref wR), .val (.ref sa547), .val (.ref sa553), .unset] [(.ref sa547)])) t → Steps p.tables e below (s₁.setTop (entryFrame m #[(.int kv)] maxLocals)) t := fun t kt => by
      refine pre553 _ ?_
      show Steps p.tables e below (T553.setTop (mkF m 37 #[.val (.int kv), .val (.int (1 : Int32)), .val (.ref wR), .val (.ref sa547), .unset, .unset] [(.ref sa553)])) _
      refine XS.astore X553.here hx rfl (hb hby at_37) rfl rfl (l' := #[.val (.int kv), .val (.int (1 : Int32)), .val (.ref wR), .val (.ref sa547), .val (.ref sa553), .unset]) rfl ?_
      show Steps p.tables e below (T553.setTop (mkF m 39 #[.val (.int kv), .val (.int (1 : Int32)), .val (.ref wR), .val (.ref sa547), .val (.ref sa553), .unset] [])) _
      refine XS.aloadN X553.here hx rfl (hb hby at_39) rfl rfl ?_
      show Steps p.tables e below (T553.setTop (mkF m 40 #[.val (.int kv), .val (.int (1 : Int32)), .val (.ref wR), .val (.ref sa547), .val (.ref sa553), .unset] [(.ref sa547)])) _
      exact kt
    obtain ⟨sa555, T555, h555, k1_555, sb555, kb555, X555, e555, E555, hS555, hk555, hZ555, ho555, Ea555, Ca555, Va555, Aa555, la555, lb555, CH555, -, -, st555⟩ := ldcCH (s := s) (vm0 := T553.vm) X553 hx hZ hown (hw _ (List.mem_of_getElem? (i := 23) rfl)) (fun d hd => hw d (own_sa d hd)) e553 hS553 hk553 hEL (List.mem_of_getElem? (i := 3) rfl) CHq553 own_tx13 (z := (13 : Int32)) (by decide) (by decide) (g := (mkF m 40 #[.val (.int kv), .val (.int (1 : Int32)), .val (.ref wR), .val (.ref sa547), .val (.ref sa553), .unset] [(.ref sa547)])) rfl (hb hby at_40) (n := 52) (by decide) (by decide) (by decide) (by decide)
    have hZ := hZ555
    have hown := ho555
    have CHq555 := CH555.1
    have R555 := (R553).trans CH555
    have F555_0 := F553_0.ext E555
    have F555_1 := F553_1.ext E555
    have F555_2 := F553_2.ext E555
    have F555_3 := F553_3.ext E555
    have F555_4 := F553_4.ext E555
    have F555_5 := F553_5.ext E555
    have F555_6 := F553_6.ext E555
    have F555_7 := F553_7.ext E555
    have F555_8 := F553_8.ext E555
    have F555_9 := F553_9.ext E555
    have F555_10 := F553_10.ext E555
    have F555_11 := F553_11.ext E555
    have F555_12 := F553_12.ext E555
    have F555_13 := F553_13.ext E555
    have F555_14 := Ea553.ext E555
    have F555_15 := Ca553.ext E555
    have F555_16 := Va553.ext E555
    have F555_17 := Aa553.ext E555
    have Zs555 : n0 ≤ h555.size := Nat.le_trans Zs553 E555.1
    have pre555 : ∀ t, Steps p.tables e below (T555.setTop (mkF m 42 #[.val (.int kv), .val (.int (1 : Int32)), .val (.ref wR), .val (.ref sa547), .val (.ref sa553), .unset] [(.ref sa555), (.ref sa547)])) t → Steps p.tables e below (s₁.setTop (entryFrame m #[(.int kv)] maxLocals)) t := fun t kt => pre554 _ (st555 t kt)
    obtain ⟨cq557, kq557, q557a, q557b, q557c⟩ := isOf hZ e555 F555_10
    obtain ⟨v557, _, ⟨T557, L557, k557, n557⟩, -, X557, ⟨Lc557, hQ557, l557, y557, z557⟩, st557⟩ := X555.virtualBack hx (y := (⟨"java/lang/String", "equals", "(Ljava/lang/Object;)Z"⟩ : MethodName)) (z := (⟨"java/lang/String", "equals", "(Ljava/lang/Object;)Z"⟩ : MethodName)) hown (mvT hZ (hw _ (List.mem_of_getElem? (i := 24) rfl))) (mvT hZ (hw _ (List.mem_of_getElem? (i := 25) rfl))) (notFace_of_selects (args := #[]) (mvT hZ (hw _ (List.mem_of_getElem? (i := 27) rfl)))) (mvT hZ (hw _ (List.mem_of_getElem? (i := 27) rfl))) (mvT hZ (hw _ (List.mem_of_getElem? (i := 26) rfl))) (by decide) (backOf (W := 0) (rm3_a l Z aZ hw [] sa547 sa555 sb547 sb555 kb547 kb555 cs  h555 n0 Zs555 Ea555 F555_11 F555_12 F555_13 Ca555 Va555 Aa555 F555_9 hcs) hZ (hw _ (List.mem_of_getElem? (i := 28) rfl)) (hw _ (List.mem_of_getElem? (i := 16) rfl)) (by decide) (by decide)) q557a q557c (g := (mkF m 42 #[.val (.int kv), .val (.int (1 : Int32)), .val (.ref wR), .val (.ref sa547), .val (.ref sa553), .unset] [(.ref sa555), (.ref sa547)])) rfl (by rw [hml]; rfl) (Steps.refl _) (argsL := [(.ref sa555)]) (rest := []) (lenOf pd_2 rfl) rfl (by show 2 * 0 + _ ≤ _; exact Nat.le_of_eq rfl) (hb hby at_42) (fun _ _ => ⟨rfl, e555, (by decide : 6 + 0 ≤ _), (by decide : 168 + 0 ≤ _)⟩)
    dsimp only [Pt.U, Pt.locs, Pt.cells, Pt.slots] at X557 l557 y557 z557 st557 hQ557
    rw [l557, y557, z557] at X557
    clear l557 y557 z557
    obtain ⟨vq557, N557q, e557⟩ := hQ557
    rw [vq557] at st557
    have N557 := Fr.app N547 N557q
    have pre557 : ∀ t, Steps p.tables e below (T557.setTop (mkF m 45 #[.val (.int kv), .val (.int (1 : Int32)), .val (.ref wR), .val (.ref sa547), .val (.ref sa553), .unset] [(.int (1 : Int32))])) t → Steps p.tables e below (s₁.setTop (entryFrame m #[(.int kv)] maxLocals)) t := fun t kt => pre555 _ (st557.trans kt)
    have pre558 : ∀ t, Steps p.tables e below (T557.setTop (mkF m 50 #[.val (.int kv), .val (.int (1 : Int32)), .val (.ref wR), .val (.ref sa547), .val (.ref sa553), .val (.int (1 : Int32))] [(.ref sa553), (.ref sa547)])) t → Steps p.tables e below (s₁.setTop (entryFrame m #[(.int kv)] maxLocals)) t := fun t kt => by
      refine pre557 _ ?_
      show Steps p.tables e below (T557.setTop (mkF m 45 #[.val (.int kv), .val (.int (1 : Int32)), .val (.ref wR), .val (.ref sa547), .val (.ref sa553), .unset] [(.int (1 : Int32))])) _
      refine XS.istore X557.here hx rfl (hb hby at_45) rfl (l' := #[.val (.int kv), .val (.int (1 : Int32)), .val (.ref wR), .val (.ref sa547), .val (.ref sa553), .val (.int (1 : Int32))]) rfl ?_
      show Steps p.tables e below (T557.setTop (mkF m 47 #[.val (.int kv), .val (.int (1 : Int32)), .val (.ref wR), .val (.ref sa547), .val (.ref sa553), .val (.int (1 : Int32))] [])) _
      refine XS.aloadN X557.here hx rfl (hb hby at_47) rfl rfl ?_
      show Steps p.tables e below (T557.setTop (mkF m 48 #[.val (.int kv), .val (.int (1 : Int32)), .val (.ref wR), .val (.ref sa547), .val (.ref sa553), .val (.int (1 : Int32))] [(.ref sa547)])) _
      refine XS.aload X557.here hx rfl (hb hby at_48) rfl rfl ?_
      show Steps p.tables e below (T557.setTop (mkF m 50 #[.val (.int kv), .val (.int (1 : Int32)), .val (.ref wR), .val (.ref sa547), .val (.ref sa553), .val (.int (1 : Int32))] [(.ref sa553), (.ref sa547)])) _
      exact kt
    obtain ⟨cq559, kq559, q559a, q559b, q559c⟩ := isOf hZ e557 F555_10
    obtain ⟨v559, _, ⟨T559, L559, k559, n559⟩, -, X559, ⟨Lc559, hQ559, l559, y559, z559⟩, st559⟩ := X557.virtualBack hx (y := (⟨"java/lang/String", "equals", "(Ljava/lang/Object;)Z"⟩ : MethodName)) (z := (⟨"java/lang/String", "equals", "(Ljava/lang/Object;)Z"⟩ : MethodName)) hown (mvT hZ (hw _ (List.mem_of_getElem? (i := 24) rfl))) (mvT hZ (hw _ (List.mem_of_getElem? (i := 25) rfl))) (notFace_of_selects (args := #[]) (mvT hZ (hw _ (List.mem_of_getElem? (i := 27) rfl)))) (mvT hZ (hw _ (List.mem_of_getElem? (i := 27) rfl))) (mvT hZ (hw _ (List.mem_of_getElem? (i := 26) rfl))) (by decide) (backOf (W := 0) (rm3_a l Z aZ hw [] sa547 sa553 sb547 sb553 kb547 kb553 cs  h555 n0 Zs555 F555_14 F555_11 F555_12 F555_13 F555_15 F555_16 F555_17 F555_9 hcs) hZ (hw _ (List.mem_of_getElem? (i := 28) rfl)) (hw _ (List.mem_of_getElem? (i := 16) rfl)) (by decide) (by decide)) q559a q559c (g := (mkF m 50 #[.val (.int kv), .val (.int (1 : Int32)), .val (.ref wR), .val (.ref sa547), .val (.ref sa553), .val (.int (1 : Int32))] [(.ref sa553), (.ref sa547)])) rfl (by rw [hml]; rfl) (Steps.refl _) (argsL := [(.ref sa553)]) (rest := []) (lenOf pd_2 rfl) rfl (by show 2 * 0 + _ ≤ _; exact Nat.le_of_eq rfl) (hb hby at_50) (fun _ _ => ⟨rfl, e557, (by decide : 6 + 0 ≤ _), (by decide : 168 + 0 ≤ _)⟩)
    dsimp only [Pt.U, Pt.locs, Pt.cells, Pt.slots] at X559 l559 y559 z559 st559 hQ559
    rw [l559, y559, z559] at X559
    clear l559 y559 z559
    obtain ⟨vq559, N559q, e559⟩ := hQ559
    rw [vq559] at st559
    have N559 := Fr.app N557 N559q
    have pre559 : ∀ t, Steps p.tables e below (T559.setTop (mkF m 53 #[.val (.int kv), .val (.int (1 : Int32)), .val (.ref wR), .val (.ref sa547), .val (.ref sa553), .val (.int (1 : Int32))] [(.int (1 : Int32))])) t → Steps p.tables e below (s₁.setTop (entryFrame m #[(.int kv)] maxLocals)) t := fun t kt => pre558 _ (st559.trans kt)
    have pre561 : ∀ t, Steps p.tables e below (T559.setTop (mkF m 56 #[.val (.int kv), .val (.int (1 : Int32)), .val (.ref wR), .val (.ref sa547), .val (.ref sa553), .val (.int (1 : Int32))] [])) t → Steps p.tables e below (s₁.setTop (entryFrame m #[(.int kv)] maxLocals)) t := fun t kt => by
      refine pre559 _ ?_
      show Steps p.tables e below (T559.setTop (mkF m 53 #[.val (.int kv), .val (.int (1 : Int32)), .val (.ref wR), .val (.ref sa547), .val (.ref sa553), .val (.int (1 : Int32))] [(.int (1 : Int32))])) _
      refine XS.ifNo X559.here hx rfl (hb hby at_53) rfl ((if0 _ _).trans (feq (by decide : ¬ ((1 : Int32) = (0 : Int32)))).1) ?_
      show Steps p.tables e below (T559.setTop (mkF m 56 #[.val (.int kv), .val (.int (1 : Int32)), .val (.ref wR), .val (.ref sa547), .val (.ref sa553), .val (.int (1 : Int32))] [])) _
      exact kt
    have pre562 : ∀ t, Steps p.tables e below (T559.setTop (mkF m 59 #[.val (.int kv), .val (.int (1 : Int32)), .val (.ref wR), .val (.ref sa547), .val (.ref sa553), .val (.int (1 : Int32))] [(.ref wR), (.int (1 : Int32))])) t → Steps p.tables e below (s₁.setTop (entryFrame m #[(.int kv)] maxLocals)) t := fun t kt => by
      refine pre561 _ ?_
      show Steps p.tables e below (T559.setTop (mkF m 56 #[.val (.int kv), .val (.int (1 : Int32)), .val (.ref wR), .val (.ref sa547), .val (.ref sa553), .val (.int (1 : Int32))] [])) _
      refine XS.iload X559.here hx rfl (hb hby at_56) rfl ?_
      show Steps p.tables e below (T559.setTop (mkF m 58 #[.val (.int kv), .val (.int (1 : Int32)), .val (.ref wR), .val (.ref sa547), .val (.ref sa553), .val (.int (1 : Int32))] [(.int (1 : Int32))])) _
      refine XS.aloadN X559.here hx rfl (hb hby at_58) rfl rfl ?_
      show Steps p.tables e below (T559.setTop (mkF m 59 #[.val (.int kv), .val (.int (1 : Int32)), .val (.ref wR), .val (.ref sa547), .val (.ref sa553), .val (.int (1 : Int32))] [(.ref wR), (.int (1 : Int32))])) _
      exact kt
    obtain ⟨cq563, kq563, q563a, q563b, q563c⟩ := isOf hZ e559 F555_4
    obtain ⟨v563, _, ⟨T563, L563, k563, n563⟩, -, X563, ⟨Lc563, hQ563, l563, y563, z563⟩, st563⟩ := X559.virtualBack hx (y := (⟨"com/example/novation/novation/model/SeriesKind", "prices", "()Z"⟩ : MethodName)) (z := (⟨"com/example/novation/novation/model/SeriesKind", "prices", "()Z"⟩ : MethodName)) hown (mvT hZ (hw _ (List.mem_of_getElem? (i := 29) rfl))) (mvT hZ (hw _ (List.mem_of_getElem? (i := 30) rfl))) (notFace_of_selects (args := #[]) (mvT hZ (hw _ (List.mem_of_getElem? (i := 54) rfl)))) (mvT hZ (hw _ (List.mem_of_getElem? (i := 54) rfl))) (mvT hZ (hw _ (List.mem_of_getElem? (i := 31) rfl))) (by decide) (backOf (W := 1) (rm4_1 l Z aZ hw [] wR  h555 n0 Zs555 F555_5) hZ (hw _ (List.mem_of_getElem? (i := 33) rfl)) (hw _ (List.mem_of_getElem? (i := 6) rfl)) (by decide) (by decide)) q563a q563c (g := (mkF m 59 #[.val (.int kv), .val (.int (1 : Int32)), .val (.ref wR), .val (.ref sa547), .val (.ref sa553), .val (.int (1 : Int32))] [(.ref wR), (.int (1 : Int32))])) rfl (by rw [hml]; rfl) (Steps.refl _) (argsL := []) (rest := [(.int (1 : Int32))]) (lenOf pd_3 rfl) rfl (by show 2 * 0 + _ ≤ _; exact Nat.le_of_eq rfl) (hb hby at_59) (fun _ _ => ⟨rfl, e559, (by decide : 6 + 0 ≤ _), (by decide : 168 + 0 ≤ _)⟩)
    dsimp only [Pt.U, Pt.locs, Pt.cells, Pt.slots] at X563 l563 y563 z563 st563 hQ563
    rw [l563, y563, z563] at X563
    clear l563 y563 z563
    obtain ⟨vq563, N563q, e563⟩ := hQ563
    rw [vq563] at st563
    have N563 := Fr.app N559 N563q
    have pre563 : ∀ t, Steps p.tables e below (T563.setTop (mkF m 62 #[.val (.int kv), .val (.int (1 : Int32)), .val (.ref wR), .val (.ref sa547), .val (.ref sa553), .val (.int (1 : Int32))] [(.int (1 : Int32)), (.int (1 : Int32))])) t → Steps p.tables e below (s₁.setTop (entryFrame m #[(.int kv)] maxLocals)) t := fun t kt => pre562 _ (st563.trans kt)
    have pre565 : ∀ t, Steps p.tables e below (T563.setTop (mkF m 65 #[.val (.int kv), .val (.int (1 : Int32)), .val (.ref wR), .val (.ref sa547), .val (.ref sa553), .val (.int (1 : Int32))] [])) t → Steps p.tables e below (s₁.setTop (entryFrame m #[(.int kv)] maxLocals)) t := fun t kt => by
      refine pre563 _ ?_
      show Steps p.tables e below (T563.setTop (mkF m 62 #[.val (.int kv), .val (.int (1 : Int32)), .val (.ref wR), .val (.ref sa547), .val (.ref sa553), .val (.int (1 : Int32))] [(.int (1 : Int32)), (.int (1 : Int32))])) _
      refine XS.icmpNo X563.here hx rfl (hb hby at_62) rfl (teq (by decide : (1 : Int32) = (1 : Int32))).2 ?_
      show Steps p.tables e below (T563.setTop (mkF m 65 #[.val (.int kv), .val (.int (1 : Int32)), .val (.ref wR), .val (.ref sa547), .val (.ref sa553), .val (.int (1 : Int32))] [])) _
      exact kt
    have pre566 : ∀ t, Steps p.tables e below (T563.setTop (mkF m 70 #[.val (.int kv), .val (.int (1 : Int32)), .val (.ref wR), .val (.ref sa547), .val (.ref sa553), .val (.int (1 : Int32))] [(.int (1 : Int32))])) t → Steps p.tables e below (s₁.setTop (entryFrame m #[(.int kv)] maxLocals)) t := fun t kt => by
      refine pre565 _ ?_
      show Steps p.tables e below (T563.setTop (mkF m 65 #[.val (.int kv), .val (.int (1 : Int32)), .val (.ref wR), .val (.ref sa547), .val (.ref sa553), .val (.int (1 : Int32))] [])) _
      refine XS.iconst X563.here hx rfl (hb hby at_65) ?_
      show Steps p.tables e below (T563.setTop (mkF m 66 #[.val (.int kv), .val (.int (1 : Int32)), .val (.ref wR), .val (.ref sa547), .val (.ref sa553), .val (.int (1 : Int32))] [(.int (1 : Int32))])) _
      refine XS.goto X563.here hx rfl (pc0 := 66) (pc' := 70) rfl (hb hby at_66) (by decide) (by decide) ?_
      show Steps p.tables e below (T563.setTop (mkF m 70 #[.val (.int kv), .val (.int (1 : Int32)), .val (.ref wR), .val (.ref sa547), .val (.ref sa553), .val (.int (1 : Int32))] [(.int (1 : Int32))])) _
      exact kt
    obtain ⟨fs, hr, hrun, hended, hEnd⟩ := X563.leaveW hS555 (by rw [e563]; exact hk555) (v := some (.int (1 : Int32))) (fun h => by rw [Bd.returns] at h; cases h)
    refine ⟨_, _, pre566 _ ?_, hrun, hended, _, _, rfl, ?_, own_rmono hEnd (by decide) (by decide)⟩
    · show Steps p.tables e below (T563.setTop (mkF m 70 #[.val (.int kv), .val (.int (1 : Int32)), .val (.ref wR), .val (.ref sa547), .val (.ref sa553), .val (.int (1 : Int32))] [(.int (1 : Int32))])) _
      exact retN X563 hx (t := .boolean) Bd.returns (by simp) (hb hby at_70) hr
    · exact ⟨rfl, N563⟩
  · have pre567 : ∀ t, Steps p.tables e below (s₁.setTop (mkF m 7 #[.val (.int kv), .val (.int (2 : Int32)), .unset, .unset, .unset, .unset] [])) t → Steps p.tables e below (s₁.setTop (entryFrame m #[(.int kv)] maxLocals)) t := by rw [← hiv]; exact pre518
    have pre568 : ∀ t, Steps p.tables e below (s₁.setTop (mkF m 8 #[.val (.int kv), .val (.int (2 : Int32)), .unset, .unset, .unset, .unset] [(.int (2 : Int32))])) t → Steps p.tables e below (s₁.setTop (entryFrame m #[(.int kv)] maxLocals)) t := fun t kt => by
      refine pre567 _ ?_
      show Steps p.tables e below (s₁.setTop (mkF m 7 #[.val (.int kv), .val (.int (2 : Int32)), .unset, .unset, .unset, .unset] [])) _
      refine XS.iloadN X0.here hx rfl (hb hby at_7) rfl ?_
      show Steps p.tables e below (s₁.setTop (mkF m 8 #[.val (.int kv), .val (.int (2 : Int32)), .unset, .unset, .unset, .unset] [(.int (2 : Int32))])) _
      exact kt
    obtain ⟨v569, _, ⟨T569, L569, k569, n569⟩, -, X569, ⟨Lc569, hQ569, l569, y569, z569⟩, st569⟩ := Jvm.LawKit.callS X0 hx (y := (⟨"com/example/novation/novation/model/SeriesKindChangesPinLaw", "pick", "(I)Lcom/example/novation/novation/model/SeriesKind;"⟩ : MethodName)) hown (mvT hZ (hw _ (List.mem_of_getElem? (i := 1) rfl))) (mvT hZ (hw _ (List.mem_of_getElem? (i := 2) rfl))) (mvT hZ (hw _ (List.mem_of_getElem? (i := 3) rfl))) (mvT hZ (hw _ (List.mem_of_getElem? (i := 4) rfl))) (by decide) (backOf (W := 0) (rm1_n l Z aZ hw [] wN  h0 n0 Z0 S_wN) hZ (hw _ (List.mem_of_getElem? (i := 4) rfl)) (hw _ (List.mem_of_getElem? (i := 3) rfl)) (by decide) (by decide)) (g := (mkF m 8 #[.val (.int kv), .val (.int (2 : Int32)), .unset, .unset, .unset, .unset] [(.int (2 : Int32))])) rfl (by rw [hml]; rfl) (argsL := [(.int (2 : Int32))]) (rest := []) (lenOf pd_0 rfl) rfl (by show 2 * 0 + _ ≤ _; exact Nat.le_of_eq rfl) (hb hby at_8) (fun _ _ => ⟨rfl, e0, (by decide : 0 + 0 ≤ _), (by decide : 0 + 0 ≤ _)⟩)
    dsimp only [Pt.U, Pt.locs, Pt.cells, Pt.slots] at X569 l569 y569 z569 st569 hQ569
    rw [l569, y569, z569] at X569
    clear l569 y569 z569
    obtain ⟨vq569, N569q, e569⟩ := hQ569
    rw [vq569] at st569
    have N569 := Fr.app N0 N569q
    have pre569 : ∀ t, Steps p.tables e below (T569.setTop (mkF m 11 #[.val (.int kv), .val (.int (2 : Int32)), .unset, .unset, .unset, .unset] [(.ref wN)])) t → Steps p.tables e below (s₁.setTop (entryFrame m #[(.int kv)] maxLocals)) t := fun t kt => pre568 _ (st569 t kt)
    have pre570 : ∀ t, Steps p.tables e below (T569.setTop (mkF m 13 #[.val (.int kv), .val (.int (2 : Int32)), .val (.ref wN), .unset, .unset, .unset] [(.ref wN)])) t → Steps p.tables e below (s₁.setTop (entryFrame m #[(.int kv)] maxLocals)) t := fun t kt => by
      refine pre569 _ ?_
      show Steps p.tables e below (T569.setTop (mkF m 11 #[.val (.int kv), .val (.int (2 : Int32)), .unset, .unset, .unset, .unset] [(.ref wN)])) _
      refine XS.astoreN X569.here hx rfl (hb hby at_11) rfl rfl (l' := #[.val (.int kv), .val (.int (2 : Int32)), .val (.ref wN), .unset, .unset, .unset]) rfl ?_
      show Steps p.tables e below (T569.setTop (mkF m 12 #[.val (.int kv), .val (.int (2 : Int32)), .val (.ref wN), .unset, .unset, .unset] [])) _
      refine XS.aloadN X569.here hx rfl (hb hby at_12) rfl rfl ?_
      show Steps p.tables e below (T569.setTop (mkF m 13 #[.val (.int kv), .val (.int (2 : Int32)), .val (.ref wN), .unset, .unset, .unset] [(.ref wN)])) _
      exact kt
    obtain ⟨cq571, kq571, q571a, q571b, q571c⟩ := isOf hZ e569 E_wN
    obtain ⟨v571, _, ⟨T571, L571, k571, n571⟩, -, X571, hS571, hg571, ⟨Lc571, hQ571, l571, y571, z571, CH571⟩, st571⟩ := X569.virtualBackS hx (y := (⟨"com/example/novation/novation/model/SeriesKind", "changes", "()Ljava/lang/String;"⟩ : MethodName)) (z := (⟨"com/example/novation/novation/model/SeriesKind", "changes", "()Ljava/lang/String;"⟩ : MethodName)) hown (mvT hZ (hw _ (List.mem_of_getElem? (i := 8) rfl))) (mvT hZ (hw _ (List.mem_of_getElem? (i := 9) rfl))) (notFace_of_selects (args := #[]) (mvT hZ (hw _ (List.mem_of_getElem? (i := 36) rfl)))) (mvT hZ (hw _ (List.mem_of_getElem? (i := 36) rfl))) (mvT hZ (hw _ (List.mem_of_getElem? (i := 10) rfl))) (by decide) (backOfSH (s := s) (vm0 := s.vm) (EL := consts_1) (W := 0) (rm2_0 l Z aZ hw [] wN h0 n0 Z0 F_wN hEL) hZ (hw _ (List.mem_of_getElem? (i := 12) rfl)) (hw _ (List.mem_of_getElem? (i := 6) rfl)) (by decide) (by decide) hEL hCH) q571a q571c (g := (mkF m 13 #[.val (.int kv), .val (.int (2 : Int32)), .val (.ref wN), .unset, .unset, .unset] [(.ref wN)])) rfl (by rw [hml]; rfl) (Steps.refl _) (argsL := []) (rest := []) (lenOf pd_1 rfl) rfl (by show 2 * 0 + _ ≤ _; exact Nat.le_of_eq rfl) (hb hby at_13) (fun _ _ => ⟨rfl, e569, (by decide : 0 + 2 ≤ _), (by decide : 0 + 72 ≤ _)⟩)
    dsimp only [Pt.U, Pt.locs, Pt.cells, Pt.slots] at X571 l571 y571 z571 st571 hQ571 hS571 CH571
    rw [l571, y571, z571] at X571
    clear l571 y571 z571
    obtain ⟨sa571, sb571, kb571, vq571, N571q, E571, Ea571, Ca571, Va571, Aa571⟩ := hQ571
    rw [vq571] at st571
    have N571 := Fr.app N569 N571q
    have hZ : Z.Warmed39 (s.setVm T571.vm).vm := State.Warmed39.trans (t := s) hZ hS571.1
    have hown : (s.setVm T571.vm).vm.findClass "com/example/novation/novation/model/SeriesKindChangesPinLaw" = some m.cls := (hS571.1.alike.findClass _ _).trans hown
    have CHq571 := CH571.1
    obtain ⟨h571, eh571⟩ : ∃ z, T571.heap = z := ⟨_, rfl⟩
    rw [eh571] at E571 Ea571 Ca571 Va571 Aa571 CHq571
    have F571_0 := S_wP.ext E571
    have F571_1 := E_wP.ext E571
    have F571_2 := F_wP.ext E571
    have F571_3 := S_wR.ext E571
    have F571_4 := E_wR.ext E571
    have F571_5 := F_wR.ext E571
    have F571_6 := S_wN.ext E571
    have F571_7 := E_wN.ext E571
    have F571_8 := F_wN.ext E571
    have F571_9 := S_c.ext E571
    have Zs571 : n0 ≤ h571.size := Nat.le_trans Z0 E571.1
    have pre571 : ∀ t, Steps p.tables e below (T571.setTop (mkF m 16 #[.val (.int kv), .val (.int (2 : Int32)), .val (.ref wN), .unset, .unset, .unset] [(.ref sa571)])) t → Steps p.tables e below (s₁.setTop (entryFrame m #[(.int kv)] maxLocals)) t := fun t kt => pre570 _ (st571.trans kt)
    have pre572 : ∀ t, Steps p.tables e below (T571.setTop (mkF m 18 #[.val (.int kv), .val (.int (2 : Int32)), .val (.ref wN), .val (.ref sa571), .unset, .unset] [(.ref sa571)])) t → Steps p.tables e below (s₁.setTop (entryFrame m #[(.int kv)] maxLocals)) t := fun t kt => by
      refine pre571 _ ?_
      show Steps p.tables e below (T571.setTop (mkF m 16 #[.val (.int kv), .val (.int (2 : Int32)), .val (.ref wN), .unset, .unset, .unset] [(.ref sa571)])) _
      refine XS.astoreN X571.here hx rfl (hb hby at_16) rfl rfl (l' := #[.val (.int kv), .val (.int (2 : Int32)), .val (.ref wN), .val (.ref sa571), .unset, .unset]) rfl ?_
      show Steps p.tables e below (T571.setTop (mkF m 17 #[.val (.int kv), .val (.int (2 : Int32)), .val (.ref wN), .val (.ref sa571), .unset, .unset] [])) _
      refine XS.aloadN X571.here hx rfl (hb hby at_17) rfl rfl ?_
      show Steps p.tables e below (T571.setTop (mkF m 18 #[.val (.int kv), .val (.int (2 : Int32)), .val (.ref wN), .val (.ref sa571), .unset, .unset] [(.ref sa571)])) _
      exact kt
    have pre573 : ∀ t, Steps p.tables e below (T571.setTop (mkF m 23 #[.val (.int kv), .val (.int (2 : Int32)), .val (.ref wN), .val (.ref sa571), .unset, .unset] [])) t → Steps p.tables e below (s₁.setTop (entryFrame m #[(.int kv)] maxLocals)) t := fun t kt => pre572 _ (XS.ifnonnullYes X571.here hx rfl (pc0 := 18) (pc' := 23) rfl (hb hby at_18) rfl (by decide) (by decide) kt)
    have pre574 : ∀ t, Steps p.tables e below (T571.setTop (mkF m 25 #[.val (.int kv), .val (.int (2 : Int32)), .val (.ref wN), .val (.ref sa571), .unset, .unset] [(.int (2 : Int32)), (.int (2 : Int32))])) t → Steps p.tables e below (s₁.setTop (entryFrame m #[(.int kv)] maxLocals)) t := fun t kt => by
      refine pre573 _ ?_
      show Steps p.tables e below (T571.setTop (mkF m 23 #[.val (.int kv), .val (.int (2 : Int32)), .val (.ref wN), .val (.ref sa571), .unset, .unset] [])) _
      refine XS.iloadN X571.here hx rfl (hb hby at_23) rfl ?_
      show Steps p.tables e below (T571.setTop (mkF m 24 #[.val (.int kv), .val (.int (2 : Int32)), .val (.ref wN), .val (.ref sa571), .unset, .unset] [(.int (2 : Int32))])) _
      refine XS.iconst X571.here hx rfl (hb hby at_24) ?_
      show Steps p.tables e below (T571.setTop (mkF m 25 #[.val (.int kv), .val (.int (2 : Int32)), .val (.ref wN), .val (.ref sa571), .unset, .unset] [(.int (2 : Int32)), (.int (2 : Int32))])) _
      exact kt
    have pre575 : ∀ t, Steps p.tables e below (T571.setTop (mkF m 28 #[.val (.int kv), .val (.int (2 : Int32)), .val (.ref wN), .val (.ref sa571), .unset, .unset] [])) t → Steps p.tables e below (s₁.setTop (entryFrame m #[(.int kv)] maxLocals)) t := fun t kt => by
      refine pre574 _ ?_
      show Steps p.tables e below (T571.setTop (mkF m 25 #[.val (.int kv), .val (.int (2 : Int32)), .val (.ref wN), .val (.ref sa571), .unset, .unset] [(.int (2 : Int32)), (.int (2 : Int32))])) _
      refine XS.icmpNo X571.here hx rfl (hb hby at_25) rfl (teq (by decide : (2 : Int32) = (2 : Int32))).2 ?_
      show Steps p.tables e below (T571.setTop (mkF m 28 #[.val (.int kv), .val (.int (2 : Int32)), .val (.ref wN), .val (.ref sa571), .unset, .unset] [])) _
      exact kt
    obtain ⟨sa577, T577, h577, k1_577, sb577, kb577, X577, e577, E577, hS577, hk577, hZ577, ho577, Ea577, Ca577, Va577, Aa577, la577, lb577, CH577, -, -, st577⟩ := ldcCH (s := s) (vm0 := T571.vm) X571 hx hZ hown (hw _ (List.mem_of_getElem? (i := 39) rfl)) (fun d hd => hw d (own_sa d hd)) eh571 hS571 (by rw [eh571]; exact Nat.le_refl _) hEL (List.mem_of_getElem? (i := 2) rfl) CHq571 own_tx17 (z := (17 : Int32)) (by decide) (by decide) (g := (mkF m 28 #[.val (.int kv), .val (.int (2 : Int32)), .val (.ref wN), .val (.ref sa571), .unset, .unset] [])) rfl (hb hby at_28) (n := 68) (by decide) (by decide) (by decide) (by decide)
    have hZ := hZ577
    have hown := ho577
    have CHq577 := CH577.1
    have R577 := (CHr.refl CHq571).trans CH577
    have F577_0 := F571_0.ext E577
    have F577_1 := F571_1.ext E577
    have F577_2 := F571_2.ext E577
    have F577_3 := F571_3.ext E577
    have F577_4 := F571_4.ext E577
    have F577_5 := F571_5.ext E577
    have F577_6 := F571_6.ext E577
    have F577_7 := F571_7.ext E577
    have F577_8 := F571_8.ext E577
    have F577_9 := F571_9.ext E577
    have F577_10 := Ea571.ext E577
    have F577_11 := Ca571.ext E577
    have F577_12 := Va571.ext E577
    have F577_13 := Aa571.ext E577
    have Zs577 : n0 ≤ h577.size := Nat.le_trans Zs571 E577.1
    have pre577 : ∀ t, Steps p.tables e below (T577.setTop (mkF m 30 #[.val (.int kv), .val (.int (2 : Int32)), .val (.ref wN), .val (.ref sa571), .unset, .unset] [(.ref sa577)])) t → Steps p.tables e below (s₁.setTop (entryFrame m #[(.int kv)] maxLocals)) t := fun t kt => pre575 _ (st577 t kt)
    have pre578 : ∀ t, Steps p.tables e below (T577.setTop (mkF m 40 #[.val (.int kv), .val (.int (2 : Int32)), .val (.ref wN), .val (.ref sa571), .val (.ref sa577), .unset] [(.ref sa571)])) t → Steps p.tables e below (s₁.setTop (entryFrame m #[(.int kv)] maxLocals)) t := fun t kt => by
      refine pre577 _ ?_
      show Steps p.tables e below (T577.setTop (mkF m 30 #[.val (.int kv), .val (.int (2 : Int32)), .val (.ref wN), .val (.ref sa571), .unset, .unset] [(.ref sa577)])) _
      refine XS.astore X577.here hx rfl (hb hby at_30) rfl rfl (l' := #[.val (.int kv), .val (.int (2 : Int32)), .val (.ref wN), .val (.ref sa571), .val (.ref sa577), .unset]) rfl ?_
      show Steps p.tables e below (T577.setTop (mkF m 32 #[.val (.int kv), .val (.int (2 : Int32)), .val (.ref wN), .val (.ref sa571), .val (.ref sa577), .unset] [])) _
      refine XS.goto X577.here hx rfl (pc0 := 32) (pc' := 39) rfl (hb hby at_32) (by decide) (by decide) ?_
      show Steps p.tables e below (T577.setTop (mkF m 39 #[.val (.int kv), .val (.int (2 : Int32)), .val (.ref wN), .val (.ref sa571), .val (.ref sa577), .unset] [])) _
      refine XS.aloadN X577.here hx rfl (hb hby at_39) rfl rfl ?_
      show Steps p.tables e below (T577.setTop (mkF m 40 #[.val (.int kv), .val (.int (2 : Int32)), .val (.ref wN), .val (.ref sa571), .val (.ref sa577), .unset] [(.ref sa571)])) _
      exact kt
    obtain ⟨sa579, T579, h579, k1_579, sb579, kb579, X579, e579, E579, hS579, hk579, hZ579, ho579, Ea579, Ca579, Va579, Aa579, la579, lb579, CH579, -, -, st579⟩ := ldcCH (s := s) (vm0 := T577.vm) X577 hx hZ hown (hw _ (List.mem_of_getElem? (i := 23) rfl)) (fun d hd => hw d (own_sa d hd)) e577 hS577 hk577 hEL (List.mem_of_getElem? (i := 3) rfl) CHq577 own_tx13 (z := (13 : Int32)) (by decide) (by decide) (g := (mkF m 40 #[.val (.int kv), .val (.int (2 : Int32)), .val (.ref wN), .val (.ref sa571), .val (.ref sa577), .unset] [(.ref sa571)])) rfl (hb hby at_40) (n := 52) (by decide) (by decide) (by decide) (by decide)
    have hZ := hZ579
    have hown := ho579
    have CHq579 := CH579.1
    have R579 := (R577).trans CH579
    have F579_0 := F577_0.ext E579
    have F579_1 := F577_1.ext E579
    have F579_2 := F577_2.ext E579
    have F579_3 := F577_3.ext E579
    have F579_4 := F577_4.ext E579
    have F579_5 := F577_5.ext E579
    have F579_6 := F577_6.ext E579
    have F579_7 := F577_7.ext E579
    have F579_8 := F577_8.ext E579
    have F579_9 := F577_9.ext E579
    have F579_10 := F577_10.ext E579
    have F579_11 := F577_11.ext E579
    have F579_12 := F577_12.ext E579
    have F579_13 := F577_13.ext E579
    have F579_14 := Ea577.ext E579
    have F579_15 := Ca577.ext E579
    have F579_16 := Va577.ext E579
    have F579_17 := Aa577.ext E579
    have Zs579 : n0 ≤ h579.size := Nat.le_trans Zs577 E579.1
    have pre579 : ∀ t, Steps p.tables e below (T579.setTop (mkF m 42 #[.val (.int kv), .val (.int (2 : Int32)), .val (.ref wN), .val (.ref sa571), .val (.ref sa577), .unset] [(.ref sa579), (.ref sa571)])) t → Steps p.tables e below (s₁.setTop (entryFrame m #[(.int kv)] maxLocals)) t := fun t kt => pre578 _ (st579 t kt)
    obtain ⟨cq581, kq581, q581a, q581b, q581c⟩ := isOf hZ e579 F579_10
    obtain ⟨v581, _, ⟨T581, L581, k581, n581⟩, -, X581, ⟨Lc581, hQ581, l581, y581, z581⟩, st581⟩ := X579.virtualBack hx (y := (⟨"java/lang/String", "equals", "(Ljava/lang/Object;)Z"⟩ : MethodName)) (z := (⟨"java/lang/String", "equals", "(Ljava/lang/Object;)Z"⟩ : MethodName)) hown (mvT hZ (hw _ (List.mem_of_getElem? (i := 24) rfl))) (mvT hZ (hw _ (List.mem_of_getElem? (i := 25) rfl))) (notFace_of_selects (args := #[]) (mvT hZ (hw _ (List.mem_of_getElem? (i := 27) rfl)))) (mvT hZ (hw _ (List.mem_of_getElem? (i := 27) rfl))) (mvT hZ (hw _ (List.mem_of_getElem? (i := 26) rfl))) (by decide) (backOf (W := 0) (rm3_c l Z aZ hw [] sa571 sa579 sb571 sb579 kb571 kb579 cs  h579 n0 Zs579 Ea579 F579_11 F579_12 F579_13 Ca579 Va579 Aa579 F579_9 hcs) hZ (hw _ (List.mem_of_getElem? (i := 28) rfl)) (hw _ (List.mem_of_getElem? (i := 16) rfl)) (by decide) (by decide)) q581a q581c (g := (mkF m 42 #[.val (.int kv), .val (.int (2 : Int32)), .val (.ref wN), .val (.ref sa571), .val (.ref sa577), .unset] [(.ref sa579), (.ref sa571)])) rfl (by rw [hml]; rfl) (Steps.refl _) (argsL := [(.ref sa579)]) (rest := []) (lenOf pd_2 rfl) rfl (by show 2 * 0 + _ ≤ _; exact Nat.le_of_eq rfl) (hb hby at_42) (fun _ _ => ⟨rfl, e579, (by decide : 6 + 0 ≤ _), (by decide : 200 + 0 ≤ _)⟩)
    dsimp only [Pt.U, Pt.locs, Pt.cells, Pt.slots] at X581 l581 y581 z581 st581 hQ581
    rw [l581, y581, z581] at X581
    clear l581 y581 z581
    obtain ⟨vq581, N581q, e581⟩ := hQ581
    rw [vq581] at st581
    have N581 := Fr.app N571 N581q
    have pre581 : ∀ t, Steps p.tables e below (T581.setTop (mkF m 45 #[.val (.int kv), .val (.int (2 : Int32)), .val (.ref wN), .val (.ref sa571), .val (.ref sa577), .unset] [(.int (0 : Int32))])) t → Steps p.tables e below (s₁.setTop (entryFrame m #[(.int kv)] maxLocals)) t := fun t kt => pre579 _ (st581.trans kt)
    have pre582 : ∀ t, Steps p.tables e below (T581.setTop (mkF m 50 #[.val (.int kv), .val (.int (2 : Int32)), .val (.ref wN), .val (.ref sa571), .val (.ref sa577), .val (.int (0 : Int32))] [(.ref sa577), (.ref sa571)])) t → Steps p.tables e below (s₁.setTop (entryFrame m #[(.int kv)] maxLocals)) t := fun t kt => by
      refine pre581 _ ?_
      show Steps p.tables e below (T581.setTop (mkF m 45 #[.val (.int kv), .val (.int (2 : Int32)), .val (.ref wN), .val (.ref sa571), .val (.ref sa577), .unset] [(.int (0 : Int32))])) _
      refine XS.istore X581.here hx rfl (hb hby at_45) rfl (l' := #[.val (.int kv), .val (.int (2 : Int32)), .val (.ref wN), .val (.ref sa571), .val (.ref sa577), .val (.int (0 : Int32))]) rfl ?_
      show Steps p.tables e below (T581.setTop (mkF m 47 #[.val (.int kv), .val (.int (2 : Int32)), .val (.ref wN), .val (.ref sa571), .val (.ref sa577), .val (.int (0 : Int32))] [])) _
      refine XS.aloadN X581.here hx rfl (hb hby at_47) rfl rfl ?_
      show Steps p.tables e below (T581.setTop (mkF m 48 #[.val (.int kv), .val (.int (2 : Int32)), .val (.ref wN), .val (.ref sa571), .val (.ref sa577), .val (.int (0 : Int32))] [(.ref sa571)])) _
      refine XS.aload X581.here hx rfl (hb hby at_48) rfl rfl ?_
      show Steps p.tables e below (T581.setTop (mkF m 50 #[.val (.int kv), .val (.int (2 : Int32)), .val (.ref wN), .val (.ref sa571), .val (.ref sa577), .val (.int (0 : Int32))] [(.ref sa577), (.ref sa571)])) _
      exact kt
    obtain ⟨cq583, kq583, q583a, q583b, q583c⟩ := isOf hZ e581 F579_10
    obtain ⟨v583, _, ⟨T583, L583, k583, n583⟩, -, X583, ⟨Lc583, hQ583, l583, y583, z583⟩, st583⟩ := X581.virtualBack hx (y := (⟨"java/lang/String", "equals", "(Ljava/lang/Object;)Z"⟩ : MethodName)) (z := (⟨"java/lang/String", "equals", "(Ljava/lang/Object;)Z"⟩ : MethodName)) hown (mvT hZ (hw _ (List.mem_of_getElem? (i := 24) rfl))) (mvT hZ (hw _ (List.mem_of_getElem? (i := 25) rfl))) (notFace_of_selects (args := #[]) (mvT hZ (hw _ (List.mem_of_getElem? (i := 27) rfl)))) (mvT hZ (hw _ (List.mem_of_getElem? (i := 27) rfl))) (mvT hZ (hw _ (List.mem_of_getElem? (i := 26) rfl))) (by decide) (backOf (W := 0) (rm3_b l Z aZ hw [] sa571 sa577 sb571 sb577 kb571 kb577 cs  h579 n0 Zs579 F579_14 F579_11 F579_12 F579_13 F579_15 F579_16 F579_17 F579_9 hcs) hZ (hw _ (List.mem_of_getElem? (i := 28) rfl)) (hw _ (List.mem_of_getElem? (i := 16) rfl)) (by decide) (by decide)) q583a q583c (g := (mkF m 50 #[.val (.int kv), .val (.int (2 : Int32)), .val (.ref wN), .val (.ref sa571), .val (.ref sa577), .val (.int (0 : Int32))] [(.ref sa577), (.ref sa571)])) rfl (by rw [hml]; rfl) (Steps.refl _) (argsL := [(.ref sa577)]) (rest := []) (lenOf pd_2 rfl) rfl (by show 2 * 0 + _ ≤ _; exact Nat.le_of_eq rfl) (hb hby at_50) (fun _ _ => ⟨rfl, e581, (by decide : 6 + 0 ≤ _), (by decide : 200 + 0 ≤ _)⟩)
    dsimp only [Pt.U, Pt.locs, Pt.cells, Pt.slots] at X583 l583 y583 z583 st583 hQ583
    rw [l583, y583, z583] at X583
    clear l583 y583 z583
    obtain ⟨vq583, N583q, e583⟩ := hQ583
    rw [vq583] at st583
    have N583 := Fr.app N581 N583q
    have pre583 : ∀ t, Steps p.tables e below (T583.setTop (mkF m 53 #[.val (.int kv), .val (.int (2 : Int32)), .val (.ref wN), .val (.ref sa571), .val (.ref sa577), .val (.int (0 : Int32))] [(.int (1 : Int32))])) t → Steps p.tables e below (s₁.setTop (entryFrame m #[(.int kv)] maxLocals)) t := fun t kt => pre582 _ (st583.trans kt)
    have pre585 : ∀ t, Steps p.tables e below (T583.setTop (mkF m 56 #[.val (.int kv), .val (.int (2 : Int32)), .val (.ref wN), .val (.ref sa571), .val (.ref sa577), .val (.int (0 : Int32))] [])) t → Steps p.tables e below (s₁.setTop (entryFrame m #[(.int kv)] maxLocals)) t := fun t kt => by
      refine pre583 _ ?_
      show Steps p.tables e below (T583.setTop (mkF m 53 #[.val (.int kv), .val (.int (2 : Int32)), .val (.ref wN), .val (.ref sa571), .val (.ref sa577), .val (.int (0 : Int32))] [(.int (1 : Int32))])) _
      refine XS.ifNo X583.here hx rfl (hb hby at_53) rfl ((if0 _ _).trans (feq (by decide : ¬ ((1 : Int32) = (0 : Int32)))).1) ?_
      show Steps p.tables e below (T583.setTop (mkF m 56 #[.val (.int kv), .val (.int (2 : Int32)), .val (.ref wN), .val (.ref sa571), .val (.ref sa577), .val (.int (0 : Int32))] [])) _
      exact kt
    have pre586 : ∀ t, Steps p.tables e below (T583.setTop (mkF m 59 #[.val (.int kv), .val (.int (2 : Int32)), .val (.ref wN), .val (.ref sa571), .val (.ref sa577), .val (.int (0 : Int32))] [(.ref wN), (.int (0 : Int32))])) t → Steps p.tables e below (s₁.setTop (entryFrame m #[(.int kv)] maxLocals)) t := fun t kt => by
      refine pre585 _ ?_
      show Steps p.tables e below (T583.setTop (mkF m 56 #[.val (.int kv), .val (.int (2 : Int32)), .val (.ref wN), .val (.ref sa571), .val (.ref sa577), .val (.int (0 : Int32))] [])) _
      refine XS.iload X583.here hx rfl (hb hby at_56) rfl ?_
      show Steps p.tables e below (T583.setTop (mkF m 58 #[.val (.int kv), .val (.int (2 : Int32)), .val (.ref wN), .val (.ref sa571), .val (.ref sa577), .val (.int (0 : Int32))] [(.int (0 : Int32))])) _
      refine XS.aloadN X583.here hx rfl (hb hby at_58) rfl rfl ?_
      show Steps p.tables e below (T583.setTop (mkF m 59 #[.val (.int kv), .val (.int (2 : Int32)), .val (.ref wN), .val (.ref sa571), .val (.ref sa577), .val (.int (0 : Int32))] [(.ref wN), (.int (0 : Int32))])) _
      exact kt
    obtain ⟨cq587, kq587, q587a, q587b, q587c⟩ := isOf hZ e583 F579_7
    obtain ⟨v587, _, ⟨T587, L587, k587, n587⟩, -, X587, ⟨Lc587, hQ587, l587, y587, z587⟩, st587⟩ := X583.virtualBack hx (y := (⟨"com/example/novation/novation/model/SeriesKind", "prices", "()Z"⟩ : MethodName)) (z := (⟨"com/example/novation/novation/model/SeriesKind", "prices", "()Z"⟩ : MethodName)) hown (mvT hZ (hw _ (List.mem_of_getElem? (i := 29) rfl))) (mvT hZ (hw _ (List.mem_of_getElem? (i := 30) rfl))) (notFace_of_selects (args := #[]) (mvT hZ (hw _ (List.mem_of_getElem? (i := 49) rfl)))) (mvT hZ (hw _ (List.mem_of_getElem? (i := 49) rfl))) (mvT hZ (hw _ (List.mem_of_getElem? (i := 31) rfl))) (by decide) (backOf (W := 1) (rm4_0 l Z aZ hw [] wN  h579 n0 Zs579 F579_8) hZ (hw _ (List.mem_of_getElem? (i := 33) rfl)) (hw _ (List.mem_of_getElem? (i := 6) rfl)) (by decide) (by decide)) q587a q587c (g := (mkF m 59 #[.val (.int kv), .val (.int (2 : Int32)), .val (.ref wN), .val (.ref sa571), .val (.ref sa577), .val (.int (0 : Int32))] [(.ref wN), (.int (0 : Int32))])) rfl (by rw [hml]; rfl) (Steps.refl _) (argsL := []) (rest := [(.int (0 : Int32))]) (lenOf pd_3 rfl) rfl (by show 2 * 0 + _ ≤ _; exact Nat.le_of_eq rfl) (hb hby at_59) (fun _ _ => ⟨rfl, e583, (by decide : 6 + 0 ≤ _), (by decide : 200 + 0 ≤ _)⟩)
    dsimp only [Pt.U, Pt.locs, Pt.cells, Pt.slots] at X587 l587 y587 z587 st587 hQ587
    rw [l587, y587, z587] at X587
    clear l587 y587 z587
    obtain ⟨vq587, N587q, e587⟩ := hQ587
    rw [vq587] at st587
    have N587 := Fr.app N583 N587q
    have pre587 : ∀ t, Steps p.tables e below (T587.setTop (mkF m 62 #[.val (.int kv), .val (.int (2 : Int32)), .val (.ref wN), .val (.ref sa571), .val (.ref sa577), .val (.int (0 : Int32))] [(.int (0 : Int32)), (.int (0 : Int32))])) t → Steps p.tables e below (s₁.setTop (entryFrame m #[(.int kv)] maxLocals)) t := fun t kt => pre586 _ (st587.trans kt)
    have pre589 : ∀ t, Steps p.tables e below (T587.setTop (mkF m 65 #[.val (.int kv), .val (.int (2 : Int32)), .val (.ref wN), .val (.ref sa571), .val (.ref sa577), .val (.int (0 : Int32))] [])) t → Steps p.tables e below (s₁.setTop (entryFrame m #[(.int kv)] maxLocals)) t := fun t kt => by
      refine pre587 _ ?_
      show Steps p.tables e below (T587.setTop (mkF m 62 #[.val (.int kv), .val (.int (2 : Int32)), .val (.ref wN), .val (.ref sa571), .val (.ref sa577), .val (.int (0 : Int32))] [(.int (0 : Int32)), (.int (0 : Int32))])) _
      refine XS.icmpNo X587.here hx rfl (hb hby at_62) rfl (teq (by decide : (0 : Int32) = (0 : Int32))).2 ?_
      show Steps p.tables e below (T587.setTop (mkF m 65 #[.val (.int kv), .val (.int (2 : Int32)), .val (.ref wN), .val (.ref sa571), .val (.ref sa577), .val (.int (0 : Int32))] [])) _
      exact kt
    have pre590 : ∀ t, Steps p.tables e below (T587.setTop (mkF m 70 #[.val (.int kv), .val (.int (2 : Int32)), .val (.ref wN), .val (.ref sa571), .val (.ref sa577), .val (.int (0 : Int32))] [(.int (1 : Int32))])) t → Steps p.tables e below (s₁.setTop (entryFrame m #[(.int kv)] maxLocals)) t := fun t kt => by
      refine pre589 _ ?_
      show Steps p.tables e below (T587.setTop (mkF m 65 #[.val (.int kv), .val (.int (2 : Int32)), .val (.ref wN), .val (.ref sa571), .val (.ref sa577), .val (.int (0 : Int32))] [])) _
      refine XS.iconst X587.here hx rfl (hb hby at_65) ?_
      show Steps p.tables e below (T587.setTop (mkF m 66 #[.val (.int kv), .val (.int (2 : Int32)), .val (.ref wN), .val (.ref sa571), .val (.ref sa577), .val (.int (0 : Int32))] [(.int (1 : Int32))])) _
      refine XS.goto X587.here hx rfl (pc0 := 66) (pc' := 70) rfl (hb hby at_66) (by decide) (by decide) ?_
      show Steps p.tables e below (T587.setTop (mkF m 70 #[.val (.int kv), .val (.int (2 : Int32)), .val (.ref wN), .val (.ref sa571), .val (.ref sa577), .val (.int (0 : Int32))] [(.int (1 : Int32))])) _
      exact kt
    obtain ⟨fs, hr, hrun, hended, hEnd⟩ := X587.leaveW hS579 (by rw [e587]; exact hk579) (v := some (.int (1 : Int32))) (fun h => by rw [Bd.returns] at h; cases h)
    refine ⟨_, _, pre590 _ ?_, hrun, hended, _, _, rfl, ?_, own_rmono hEnd (by decide) (by decide)⟩
    · show Steps p.tables e below (T587.setTop (mkF m 70 #[.val (.int kv), .val (.int (2 : Int32)), .val (.ref wN), .val (.ref sa571), .val (.ref sa577), .val (.int (0 : Int32))] [(.int (1 : Int32))])) _
      exact retN X587 hx (t := .boolean) Bd.returns (by simp) (hb hby at_70) hr
    · exact ⟨rfl, N587⟩
theorem own_eqi {a : Term} {n : Int32} {args : Array Value} {first s : State} {o : Option Outcome} {idx : List Nat} (h : (Jvm.Cond.eq a (.int n)).value args first o s idx = some true) : a.eval args first o idx s = some (.int n) := by
  simp only [Cond.value, Term.eval] at h
  cases ha : a.eval args first o idx s with
  | none => simp [ha] at h
  | some x => cases x <;> simp [ha] at h ⊢; exact h
theorem own_neq {a : Term} {n z : Int32} {args : Array Value} {first s : State} {o : Option Outcome} {idx : List Nat} (h : (Jvm.Cond.not (.eq a (.int n))).value args first o s idx = some true) (e : a.eval args first o idx s = some (.int z)) : ¬ (z = n) := by
  intro q
  simp [Cond.value, Term.eval, e, q] at h
set_option maxRecDepth 65536 in
set_option maxHeartbeats 40000000 in
theorem comes_1 {Post : Tables → Env → Array Value → State → Outcome → State → Prop} (hpost : ∀ tb e args s v u, (limb_1_1.after args s (.returned v) u = true ∧ limb_1_2.after args s (.returned v) u = true ∧ True) → ReturnedEndW s (.returned v) u (Jvm.fieldLocs frame_1_writes args s ++ Jvm.arrayLocs frame_1_arrays args s ++ Jvm.staticLocs frame_1_statics s) 8 4160 → Post tb e args s (.returned v) u) :
    ArmFor flags0 classFile x code maxLocals ret World_1 tables_1 room_1 Calls_1 rest_1 Pre_1 Post := by
  intro l hfl _ _ p e ha hc hk s m args below hf hA hF happ hP
  obtain ⟨hcalls, hrest, hpre⟩ := hP
  obtain ⟨-, -, -, hnamed, -, -, -, hat⟩ := (Spec.applies_iff hf).mp happ
  obtain ⟨hg, hn⟩ := and_e (Cond.before_iff.mp (show (Jvm.Cond.and given_1 narrow_1).before args s = true from hpre))
  obtain ⟨ga0, gb0⟩ := and_e hg
  obtain ⟨w0, rfl⟩ : ∃ w0 : Value, args = #[w0] := by
    have hs : args.size = 1 := by simpa [Cond.value, given_1] using ga0
    obtain ⟨L⟩ := args
    match L, hs with
    | [w0], _ => exact ⟨w0, rfl⟩
  have hw := fun d (hd : d ∈ tables_1) => atoms_spec (ws := Jvm.Cond.code x code maxLocals ret :: tables_1) hat d (List.mem_cons_of_mem _ hd)
  have hfit : Fit s := fun {y c} hc i hi => by
    obtain ⟨ha, rfl⟩ := Array.getElem?_eq_some_iff.mp hc
    have q := List.all_eq_true.mp ((Array.all_eq_true_iff_forall_mem.mp hF) _ (Array.getElem_mem ha)) i (List.mem_range.mpr hi)
    simpa [Array.getElem?_eq_getElem hi] using q
  obtain ⟨i0, ei0⟩ := is_v gb0
  obtain rfl : w0 = (.int i0) := Option.some.inj ei0
  obtain ⟨nP, hn⟩ := and_e hn
  obtain ⟨oP, hn⟩ := and_e hn
  obtain ⟨nN, hn⟩ := and_e hn
  obtain ⟨oN, hn⟩ := and_e hn
  obtain ⟨nR, oR⟩ := and_e hn
  obtain ⟨wP, eP⟩ := exa_v nP
  have S_wP := Sta.start eP (Or.inr ⟨(hw _ (List.mem_of_getElem? (i := 6) rfl)), (hw _ (List.mem_of_getElem? (i := 7) rfl))⟩)
  have E_wP := Exa.start eP nP
  have F_wP := Fld.start ((fld_at eP).symm.trans (own_eqi oP))
  obtain ⟨wR, eR⟩ := exa_v nR
  have S_wR := Sta.start eR (Or.inr ⟨(hw _ (List.mem_of_getElem? (i := 6) rfl)), (hw _ (List.mem_of_getElem? (i := 51) rfl))⟩)
  have E_wR := Exa.start eR nR
  have F_wR := Fld.start ((fld_at eR).symm.trans (own_eqi oR))
  obtain ⟨wN, eN⟩ := exa_v nN
  have S_wN := Sta.start eN (Or.inr ⟨(hw _ (List.mem_of_getElem? (i := 6) rfl)), (hw _ (List.mem_of_getElem? (i := 35) rfl))⟩)
  have E_wN := Exa.start eN nN
  have F_wN := Fld.start ((fld_at eN).symm.trans (own_eqi oN))
  obtain ⟨rI, hr⟩ := and_e (Cond.before_iff.mp (show rest_1_c.before _ s = true from hrest))
  obtain ⟨rJ, hr⟩ := and_e hr
  obtain ⟨rK, hr⟩ := and_e hr
  obtain ⟨cs, ecs⟩ := is_v rJ
  have S_c := Sta.start ecs (Or.inl (Cond.before_iff.mpr rI))
  have hcs := own_neq rK ecs
  have hEL : EW s _ consts_1 := (EW.cons (hw _ (List.mem_of_getElem? (i := 15) rfl)) own_tx13.1 (EW.cons (hw _ (List.mem_of_getElem? (i := 38) rfl)) own_tx17.1 (EW.cons (hw _ (List.mem_of_getElem? (i := 39) rfl)) own_tx17.1 (EW.cons (hw _ (List.mem_of_getElem? (i := 23) rfl)) own_tx13.1 EW.nil))))
  have hCH : CHv s consts_1 s.vm s.heap := CHv.start hEL (fun p hp => hcalls.1 p hp) (Cond.before_iff.mpr rK) (hw _ (List.mem_of_getElem? (i := 18) rfl)) (hw _ (List.mem_of_getElem? (i := 17) rfl))
  obtain ⟨n, o, h1, h2, h3, _, L, rfl, ⟨rfl, N⟩, hq⟩ := rm0 l s _ hw tables_1 i0 wP wR wN cs s.heap s.heap.size (Nat.le_refl _) S_wP E_wP F_wP S_wR E_wR F_wR S_wN E_wN F_wN S_c hcs hEL p e ha hc hk s m _ below hf ((Spec.applies_iff_loose hf).mp happ).1 ⟨rfl, State.Warmed39.refl s, rfl, hCH⟩ trivial
  refine ⟨n, _, h1, h2, h3, hpost _ _ _ _ _ _ ⟨Cond.after_iff.mpr rfl, Cond.after_iff.mpr (eq_i res_at (Term.int_eval (1)) rfl), trivial⟩ ⟨hq.1, hq.2.1, hq.2.2.1, (hq.2.2.2.sift fun y hy => Or.inr (N y hy)).mono (by decide) (by decide)⟩⟩
theorem main_1_1 : Claimed_1_1 := comes_1 fun _ _ _ _ _ _ h hF => ⟨h.1, hF⟩
theorem main_1_2 : Claimed_1_2 := comes_1 fun _ _ _ _ _ _ h hF => ⟨h.2.1, hF⟩
end Jvm.Pilot.@@N@@
namespace Jvm.Pilot.@@N@@
open Jvm Jvm.ClassFile Sem Op Lib Jvm.Free Jvm.Stand Jvm.Pilot.@@N@@.Jvm.D
/-! MADE BY PROGRAM (witnessworld.py) out of the Statement's table words and the real class files: 22 classes; the members and pool entries that the words name. The judged class is class 1, her method 2. -/
namespace start1
open Jvm.ClassFile
def u (s : String) : CpInfo := .utf8 (stringToUtf16 s)
/-- a pool by its gaps: so many unusable entries, then the entry; so many at the end -/
def gap : Nat → List CpInfo → List CpInfo
  | 0, r => r
  | n + 1, r => .unusable :: gap n r
def poolList (es : List (Nat × CpInfo)) (last : Nat) : List CpInfo := es.foldr (fun e r => gap e.1 (e.2 :: r)) (gap last [])
def pool (es : List (Nat × CpInfo)) (last : Nat) : Array CpInfo := ⟨poolList es last⟩
def fileOf (pool : Array CpInfo) (this : Nat) (attrs : Array Attribute := #[]) (ms : Array MethodInfo := #[]) (fl : Nat := 33) (sup : Nat := 0) (ifs : Array Nat := #[]) (fds : Array FieldInfo := #[]) : ClassFile where
  minorVersion := 0
  majorVersion := 65
  constantPool := pool
  accessFlags := fl
  thisClass := this
  superClass := sup
  interfaces := ifs
  fields := fds
  methods := ms
  attributes := attrs
def plain (name : String) (sup : Option ClassId) : Class where
  name := name
  kind := .ordinary
  loader := none
  accessFlags := 33
  super := sup
  interfaces := #[]
  cf := none
  fields := #[]
  methods := #[]
  instanceTypes := #[]
  staticTypes := #[]
  resolved := #[]
  callSites := []
  init := .initialized
  statics := none
  mirror := none

def pool0 : Array CpInfo := pool [(5, u "<init>"), (0, u "()V"), (1, .class_ 10), (1, u "java/lang/Object")] 113

def k0m0 : Method := { name := "<init>", desc := "()V", sig := { parameters := [], returnType := none }, accessFlags := 1, code := none }
/-- java/lang/Object -/
def k0 : Class := { plain "java/lang/Object" none with
  accessFlags := 33
  interfaces := #[]
  cf := some (fileOf pool0 8 #[] #[{ accessFlags := 1, nameIndex := 5, descriptorIndex := 6, attributes := #[] }] 33 0 #[] #[])
  fields := #[]
  methods := #[k0m0]
  instanceTypes := #[]
  staticTypes := #[]
  resolved := Array.replicate 124 none
  statics := none }

def pool1 : Array CpInfo := pool [(2, .class_ 4), (1, u "java/lang/Object"), (0, u "<init>"), (0, u "()V"), (0, .fieldref 8 9), (0, .class_ 10), (0, .nameAndType 11 12), (0, u "com/example/novation/novation/model/SeriesKind"), (0, u "PRICE"), (0, u "Lcom/example/novation/novation/model/SeriesKind;"), (0, .fieldref 8 14), (0, .nameAndType 15 12), (0, u "RATE"), (0, .fieldref 8 17), (0, .nameAndType 18 12), (0, u "PNL"), (0, .integer 2147483647), (0, .methodref 21 22), (0, .class_ 23), (0, .nameAndType 24 25), (0, u "com/example/novation/novation/model/SeriesKindChangesPinLaw"), (0, u "pick"), (0, u "(I)Lcom/example/novation/novation/model/SeriesKind;"), (0, .methodref 8 27), (0, .nameAndType 28 29), (0, u "changes"), (0, u "()Ljava/lang/String;"), (0, .string 31), (0, u "daily P&L amounts"), (0, .string 33), (0, u "daily returns"), (0, .methodref 35 36), (0, .class_ 37), (0, .nameAndType 38 39), (0, u "java/lang/String"), (0, u "equals"), (0, u "(Ljava/lang/Object;)Z"), (0, .methodref 8 41), (0, .nameAndType 42 43), (0, u "prices"), (0, u "()Z"), (3, u "law"), (0, u "(I)Z")] 2

def k1m0 : Method := { name := "<init>", desc := "()V", sig := { parameters := [], returnType := none }, accessFlags := 1, code := none }
def k1c1 : Code := { maxStack := 2, maxLocals := 1, code := method_2_code, exceptionTable := #[], attributes := #[] }
def k1m1 : Method := { name := "pick", desc := "(I)Lcom/example/novation/novation/model/SeriesKind;", sig := { parameters := [.int], returnType := some (.object "com/example/novation/novation/model/SeriesKind") }, accessFlags := 10, code := some k1c1 }
def k1c2 : Code := { maxStack := 2, maxLocals := 6, code := code, exceptionTable := #[], attributes := #[] }
def k1m2 : Method := { name := "law", desc := "(I)Z", sig := { parameters := [.int], returnType := some .boolean }, accessFlags := 9, code := some k1c2 }
/-- com/example/novation/novation/model/SeriesKindChangesPinLaw -/
def k1 : Class := { plain "com/example/novation/novation/model/SeriesKindChangesPinLaw" (some 0) with
  accessFlags := 49
  interfaces := #[]
  cf := some (fileOf pool1 21 #[] #[{ accessFlags := 1, nameIndex := 5, descriptorIndex := 6, attributes := #[] }, { accessFlags := 10, nameIndex := 24, descriptorIndex := 25, attributes := #[] }, { accessFlags := 9, nameIndex := 47, descriptorIndex := 48, attributes := #[] }] 49 2 #[] #[])
  fields := #[]
  methods := #[k1m0, k1m1, k1m2]
  instanceTypes := #[]
  staticTypes := #[]
  resolved := Array.replicate 51 none
  statics := none }

def pool2 : Array CpInfo := pool [(1, .class_ 2), (0, u "java/lang/constant/Constable"), (0, .class_ 4), (0, u "java/lang/Object")] 6

/-- java/lang/constant/Constable -/
def k2 : Class := { plain "java/lang/constant/Constable" (some 0) with
  accessFlags := 1537
  interfaces := #[]
  cf := some (fileOf pool2 1 #[] #[] 1537 3 #[] #[])
  fields := #[]
  methods := #[]
  instanceTypes := #[]
  staticTypes := #[]
  resolved := Array.replicate 11 none
  statics := none }

def pool3 : Array CpInfo := pool [(1, .class_ 2), (0, u "java/lang/Comparable"), (0, .class_ 4), (0, u "java/lang/Object")] 7

/-- java/lang/Comparable -/
def k3 : Class := { plain "java/lang/Comparable" (some 0) with
  accessFlags := 1537
  interfaces := #[]
  cf := some (fileOf pool3 1 #[] #[] 1537 3 #[] #[])
  fields := #[]
  methods := #[]
  instanceTypes := #[]
  staticTypes := #[]
  resolved := Array.replicate 12 none
  statics := none }

def pool4 : Array CpInfo := pool [(1, .class_ 2), (0, u "java/io/Serializable"), (0, .class_ 4), (0, u "java/lang/Object")] 2

/-- java/io/Serializable -/
def k4 : Class := { plain "java/io/Serializable" (some 0) with
  accessFlags := 1537
  interfaces := #[]
  cf := some (fileOf pool4 1 #[] #[] 1537 3 #[] #[])
  fields := #[]
  methods := #[]
  instanceTypes := #[]
  staticTypes := #[]
  resolved := Array.replicate 7 none
  statics := none }

def pool5 : Array CpInfo := pool [(2, .class_ 4), (1, u "java/lang/Enum"), (0, u "name"), (0, u "Ljava/lang/String;"), (2, u "ordinal"), (0, u "I"), (1, .class_ 14), (1, u "java/lang/Object"), (4, u "hash"), (86, .class_ 108), (1, u "java/lang/Enum$EnumDesc"), (2, .class_ 112), (0, u "java/lang/constant/Constable"), (0, .class_ 114), (0, u "java/lang/Comparable"), (0, .class_ 116), (0, u "java/io/Serializable")] 87

/-- java/lang/Enum -/
def k5 : Class := { plain "java/lang/Enum" (some 0) with
  accessFlags := 1057
  interfaces := #[2, 3, 4]
  cf := some (fileOf pool5 2 #[.nestMembers #[106]] #[] 1057 12 #[111, 113, 115] #[{ accessFlags := 18, nameIndex := 5, descriptorIndex := 6, attributes := #[] }, { accessFlags := 18, nameIndex := 9, descriptorIndex := 10, attributes := #[] }, { accessFlags := 2, nameIndex := 19, descriptorIndex := 10, attributes := #[] }])
  fields := #[{ name := "name", type := (.object "java/lang/String"), accessFlags := 18, slot := 0, constantValue := 0 }, { name := "ordinal", type := .int, accessFlags := 18, slot := 1, constantValue := 0 }, { name := "hash", type := .int, accessFlags := 2, slot := 2, constantValue := 0 }]
  methods := #[]
  instanceTypes := #[(.object "java/lang/String"), .int, .int]
  staticTypes := #[]
  resolved := Array.replicate 204 none
  statics := none }

def pool6 : Array CpInfo := pool [(23, .class_ 24), (0, u "com/example/novation/novation/model/csv/Choice"), (18, .class_ 44), (0, u "java/lang/Object")] 11

/-- com/example/novation/novation/model/csv/Choice -/
def k6 : Class := { plain "com/example/novation/novation/model/csv/Choice" (some 0) with
  accessFlags := 1537
  interfaces := #[]
  cf := some (fileOf pool6 23 #[] #[] 1537 43 #[] #[])
  fields := #[]
  methods := #[]
  instanceTypes := #[]
  staticTypes := #[]
  resolved := Array.replicate 56 none
  statics := none }

def pool7 : Array CpInfo := pool [(1, .class_ 2), (0, u "com/example/novation/novation/model/SeriesKind"), (2, u "PRICE"), (0, u "Lcom/example/novation/novation/model/SeriesKind;"), (2, u "RATE"), (2, u "PNL"), (2, u "$VALUES"), (0, u "[Lcom/example/novation/novation/model/SeriesKind;"), (6, .class_ 25), (1, u "java/lang/Enum"), (8, u "word"), (0, u "Ljava/lang/String;"), (0, .fieldref 1 37), (0, .nameAndType 38 39), (0, u "prices"), (0, u "Z"), (2, u "expected"), (0, .string 44), (0, u "daily returns"), (0, .string 46), (0, u "daily P&L amounts"), (13, .class_ 61), (0, u "com/example/novation/novation/model/SeriesKind$1"), (8, .class_ 71), (0, u "com/example/novation/novation/model/SeriesKind$2"), (6, .class_ 79), (0, u "com/example/novation/novation/model/SeriesKind$3"), (10, .class_ 91), (0, u "com/example/novation/novation/model/csv/Choice"), (7, u "()Ljava/lang/String;"), (0, u "()Z"), (0, u "changes")] 27

def k7c0 : Code := { maxStack := 1, maxLocals := 1, code := prog_48_method_5_code, exceptionTable := #[], attributes := #[] }
def k7m0 : Method := { name := "prices", desc := "()Z", sig := { parameters := [], returnType := some .boolean }, accessFlags := 1, code := some k7c0 }
def k7c1 : Code := { maxStack := 1, maxLocals := 1, code := prog_48_method_7_code, exceptionTable := #[], attributes := #[] }
def k7m1 : Method := { name := "changes", desc := "()Ljava/lang/String;", sig := { parameters := [], returnType := some (.object "java/lang/String") }, accessFlags := 1, code := some k7c1 }
/-- com/example/novation/novation/model/SeriesKind -/
def k7 : Class := { plain "com/example/novation/novation/model/SeriesKind" (some 5) with
  accessFlags := 17441
  interfaces := #[6]
  cf := some (fileOf pool7 1 #[.nestMembers #[78, 70, 60]] #[{ accessFlags := 1, nameIndex := 38, descriptorIndex := 100, attributes := #[] }, { accessFlags := 1, nameIndex := 101, descriptorIndex := 99, attributes := #[] }] 17441 23 #[90] #[{ accessFlags := 16409, nameIndex := 5, descriptorIndex := 6, attributes := #[] }, { accessFlags := 16409, nameIndex := 9, descriptorIndex := 6, attributes := #[] }, { accessFlags := 16409, nameIndex := 12, descriptorIndex := 6, attributes := #[] }, { accessFlags := 18, nameIndex := 34, descriptorIndex := 35, attributes := #[] }, { accessFlags := 18, nameIndex := 38, descriptorIndex := 39, attributes := #[] }, { accessFlags := 18, nameIndex := 42, descriptorIndex := 35, attributes := #[] }, { accessFlags := 4122, nameIndex := 15, descriptorIndex := 16, attributes := #[] }])
  fields := #[{ name := "PRICE", type := (.object "com/example/novation/novation/model/SeriesKind"), accessFlags := 16409, slot := 0, constantValue := 0 }, { name := "RATE", type := (.object "com/example/novation/novation/model/SeriesKind"), accessFlags := 16409, slot := 1, constantValue := 0 }, { name := "PNL", type := (.object "com/example/novation/novation/model/SeriesKind"), accessFlags := 16409, slot := 2, constantValue := 0 }, { name := "word", type := (.object "java/lang/String"), accessFlags := 18, slot := 3, constantValue := 0 }, { name := "prices", type := .boolean, accessFlags := 18, slot := 4, constantValue := 0 }, { name := "expected", type := (.object "java/lang/String"), accessFlags := 18, slot := 5, constantValue := 0 }, { name := "$VALUES", type := (.array (.object "com/example/novation/novation/model/SeriesKind")), accessFlags := 4122, slot := 3, constantValue := 0 }]
  methods := #[k7m0, k7m1]
  instanceTypes := #[(.object "java/lang/String"), .int, .int, (.object "java/lang/String"), .boolean, (.object "java/lang/String")]
  staticTypes := #[(.object "com/example/novation/novation/model/SeriesKind"), (.object "com/example/novation/novation/model/SeriesKind"), (.object "com/example/novation/novation/model/SeriesKind"), (.array (.object "com/example/novation/novation/model/SeriesKind"))]
  resolved := Array.replicate 129 none
  statics := some 0 }

def pool8 : Array CpInfo := pool [(2, .class_ 4), (1, u "com/example/novation/novation/model/SeriesKind"), (2, .class_ 8), (0, u "com/example/novation/novation/model/SeriesKind$1")] 10

/-- com/example/novation/novation/model/SeriesKind$1 -/
def k8 : Class := { plain "com/example/novation/novation/model/SeriesKind$1" (some 7) with
  accessFlags := 16432
  interfaces := #[]
  cf := some (fileOf pool8 7 #[.nestHost 2] #[] 16432 2 #[] #[])
  fields := #[]
  methods := #[]
  instanceTypes := #[(.object "java/lang/String"), .int, .int, (.object "java/lang/String"), .boolean, (.object "java/lang/String")]
  staticTypes := #[]
  resolved := Array.replicate 19 none
  statics := none }

def pool9 : Array CpInfo := pool [(2, .class_ 4), (1, u "java/lang/CharSequence"), (42, .class_ 48), (0, u "java/lang/CharSequence$1CodePointIterator"), (10, .class_ 60), (0, u "java/lang/CharSequence$1CharIterator"), (5, .class_ 67), (0, u "java/lang/Object")] 63

/-- java/lang/CharSequence -/
def k9 : Class := { plain "java/lang/CharSequence" (some 0) with
  accessFlags := 1537
  interfaces := #[]
  cf := some (fileOf pool9 2 #[.nestMembers #[47, 59]] #[] 1537 66 #[] #[])
  fields := #[]
  methods := #[]
  instanceTypes := #[]
  staticTypes := #[]
  resolved := Array.replicate 131 none
  statics := none }

def pool10 : Array CpInfo := pool [(1, .class_ 2), (0, u "java/lang/constant/ConstantDesc"), (0, .class_ 4), (0, u "java/lang/Object")] 32

/-- java/lang/constant/ConstantDesc -/
def k10 : Class := { plain "java/lang/constant/ConstantDesc" (some 0) with
  accessFlags := 1537
  interfaces := #[]
  cf := some (fileOf pool10 1 #[] #[] 1537 3 #[] #[])
  fields := #[]
  methods := #[]
  instanceTypes := #[]
  staticTypes := #[]
  resolved := Array.replicate 37 none
  statics := none }

def pool11 : Array CpInfo := pool [(2, .class_ 4), (1, u "java/lang/Object"), (0, u "<init>"), (0, u "()V"), (2, .fieldref 10 11), (0, .class_ 12), (0, .nameAndType 13 14), (0, u "java/lang/String"), (0, u "value"), (0, u "[B"), (0, .fieldref 10 16), (0, .nameAndType 17 18), (0, u "coder"), (0, u "B"), (2, u "hash"), (0, u "I"), (2, u "hashIsZero"), (0, u "Z"), (11, .fieldref 10 39), (0, .nameAndType 40 26), (0, u "COMPACT_STRINGS"), (66, .class_ 109), (1, u "java/lang/StringLatin1"), (431, .methodref 107 542), (0, .nameAndType 543 544), (0, u "equals"), (0, u "([B[B)Z"), (28, u "(Ljava/lang/Object;)Z"), (1, .class_ 576), (0, u "java/lang/CharSequence"), (22, u "CASE_INSENSITIVE_ORDER"), (0, u "Ljava/util/Comparator;"), (500, u "serialPersistentFields"), (0, u "[Ljava/io/ObjectStreamField;"), (0, .class_ 1104), (0, u "java/lang/String$CaseInsensitiveComparator"), (1, .class_ 1107), (0, u "java/io/Serializable"), (0, .class_ 1109), (0, u "java/lang/Comparable"), (0, .class_ 1111), (0, u "java/lang/constant/Constable"), (0, .class_ 1113), (0, u "java/lang/constant/ConstantDesc"), (2, u "serialVersionUID"), (0, u "J"), (3, u "REPL"), (0, u "C"), (2, u "LATIN1"), (1, u "UTF16")] 323

def k11m0 : Method := { name := "<init>", desc := "()V", sig := { parameters := [], returnType := none }, accessFlags := 1, code := none }
def k11c1 : Code := { maxStack := 2, maxLocals := 3, code := jdk_42_method_66_code, exceptionTable := #[], attributes := #[] }
def k11m1 : Method := { name := "equals", desc := "(Ljava/lang/Object;)Z", sig := { parameters := [(.object "java/lang/Object")], returnType := some .boolean }, accessFlags := 1, code := some k11c1 }
/-- java/lang/String -/
def k11 : Class := { plain "java/lang/String" (some 0) with
  accessFlags := 49
  interfaces := #[4, 3, 9, 2, 10]
  cf := some (fileOf pool11 10 #[.nestMembers #[1103]] #[{ accessFlags := 1, nameIndex := 5, descriptorIndex := 6, attributes := #[] }, { accessFlags := 1, nameIndex := 543, descriptorIndex := 573, attributes := #[] }] 49 2 #[1106, 1108, 575, 1110, 1112] #[{ accessFlags := 18, nameIndex := 13, descriptorIndex := 14, attributes := #[] }, { accessFlags := 18, nameIndex := 17, descriptorIndex := 18, attributes := #[] }, { accessFlags := 2, nameIndex := 21, descriptorIndex := 22, attributes := #[] }, { accessFlags := 2, nameIndex := 25, descriptorIndex := 26, attributes := #[] }, { accessFlags := 26, nameIndex := 1116, descriptorIndex := 1117, attributes := #[] }, { accessFlags := 24, nameIndex := 40, descriptorIndex := 26, attributes := #[] }, { accessFlags := 26, nameIndex := 1101, descriptorIndex := 1102, attributes := #[] }, { accessFlags := 26, nameIndex := 1121, descriptorIndex := 1122, attributes := #[] }, { accessFlags := 25, nameIndex := 599, descriptorIndex := 600, attributes := #[] }, { accessFlags := 24, nameIndex := 1125, descriptorIndex := 18, attributes := #[] }, { accessFlags := 24, nameIndex := 1127, descriptorIndex := 18, attributes := #[] }])
  fields := #[{ name := "value", type := (.array .byte), accessFlags := 18, slot := 0, constantValue := 0 }, { name := "coder", type := .byte, accessFlags := 18, slot := 1, constantValue := 0 }, { name := "hash", type := .int, accessFlags := 2, slot := 2, constantValue := 0 }, { name := "hashIsZero", type := .boolean, accessFlags := 2, slot := 3, constantValue := 0 }, { name := "serialVersionUID", type := .long, accessFlags := 26, slot := 0, constantValue := 0 }, { name := "COMPACT_STRINGS", type := .boolean, accessFlags := 24, slot := 1, constantValue := 0 }, { name := "serialPersistentFields", type := (.array (.object "java/io/ObjectStreamField")), accessFlags := 26, slot := 2, constantValue := 0 }, { name := "REPL", type := .char, accessFlags := 26, slot := 3, constantValue := 0 }, { name := "CASE_INSENSITIVE_ORDER", type := (.object "java/util/Comparator"), accessFlags := 25, slot := 4, constantValue := 0 }, { name := "LATIN1", type := .byte, accessFlags := 24, slot := 5, constantValue := 0 }, { name := "UTF16", type := .byte, accessFlags := 24, slot := 6, constantValue := 0 }]
  methods := #[k11m0, k11m1]
  instanceTypes := #[(.array .byte), .byte, .int, .boolean]
  staticTypes := #[.long, .boolean, (.array (.object "java/io/ObjectStreamField")), .char, (.object "java/util/Comparator"), .byte, .byte]
  resolved := Array.replicate 1451 none
  statics := some 1 }

def pool12 : Array CpInfo := pool [(2, .class_ 4), (1, u "com/example/novation/novation/model/SeriesKind"), (2, .class_ 8), (0, u "com/example/novation/novation/model/SeriesKind$3")] 10

/-- com/example/novation/novation/model/SeriesKind$3 -/
def k12 : Class := { plain "com/example/novation/novation/model/SeriesKind$3" (some 7) with
  accessFlags := 16432
  interfaces := #[]
  cf := some (fileOf pool12 7 #[.nestHost 2] #[] 16432 2 #[] #[])
  fields := #[]
  methods := #[]
  instanceTypes := #[(.object "java/lang/String"), .int, .int, (.object "java/lang/String"), .boolean, (.object "java/lang/String")]
  staticTypes := #[]
  resolved := Array.replicate 19 none
  statics := none }

def pool13 : Array CpInfo := pool [(4, .class_ 6), (1, u "java/lang/Object"), (0, u "<init>"), (0, u "()V"), (5, .class_ 16), (1, u "java/lang/StringLatin1"), (104, u "$assertionsDisabled"), (0, u "Z"), (98, .class_ 223), (1, u "java/lang/StringLatin1$LinesSpliterator"), (57, u "equals"), (0, u "([B[B)Z"), (107, .class_ 391), (0, u "java/lang/StringLatin1$CharsSpliterator")] 3

def k13m0 : Method := { name := "<init>", desc := "()V", sig := { parameters := [], returnType := none }, accessFlags := 0, code := none }
def k13c1 : Code := { maxStack := 3, maxLocals := 3, code := jdk_43_method_13_code, exceptionTable := #[], attributes := #[] }
def k13m1 : Method := { name := "equals", desc := "([B[B)Z", sig := { parameters := [(.array .byte), (.array .byte)], returnType := some .boolean }, accessFlags := 9, code := some k13c1 }
/-- java/lang/StringLatin1 -/
def k13 : Class := { plain "java/lang/StringLatin1" (some 0) with
  accessFlags := 48
  interfaces := #[]
  cf := some (fileOf pool13 14 #[.nestMembers #[390, 221]] #[{ accessFlags := 0, nameIndex := 7, descriptorIndex := 8, attributes := #[] }, { accessFlags := 9, nameIndex := 281, descriptorIndex := 282, attributes := #[] }] 48 4 #[] #[{ accessFlags := 4120, nameIndex := 121, descriptorIndex := 122, attributes := #[] }])
  fields := #[{ name := "$assertionsDisabled", type := .boolean, accessFlags := 4120, slot := 0, constantValue := 0 }]
  methods := #[k13m0, k13m1]
  instanceTypes := #[]
  staticTypes := #[.boolean]
  resolved := Array.replicate 395 none
  statics := none }

def pool14 : Array CpInfo := pool [(2, .class_ 4), (1, u "com/example/novation/novation/model/SeriesKind"), (4, .class_ 10), (0, u "com/example/novation/novation/model/SeriesKind$2")] 10

/-- com/example/novation/novation/model/SeriesKind$2 -/
def k14 : Class := { plain "com/example/novation/novation/model/SeriesKind$2" (some 7) with
  accessFlags := 16432
  interfaces := #[]
  cf := some (fileOf pool14 9 #[.nestHost 2] #[] 16432 2 #[] #[])
  fields := #[]
  methods := #[]
  instanceTypes := #[(.object "java/lang/String"), .int, .int, (.object "java/lang/String"), .boolean, (.object "java/lang/String")]
  staticTypes := #[]
  resolved := Array.replicate 21 none
  statics := none }

def pool15 : Array CpInfo := pool [(2, .class_ 4), (1, u "java/lang/Object"), (0, u "<init>"), (0, u "()V"), (17, .class_ 26), (1, u "jdk/internal/util/Preconditions"), (28, .class_ 56), (0, u "jdk/internal/util/Preconditions$4"), (57, .class_ 115), (0, u "jdk/internal/util/Preconditions$1"), (7, u "SIOOBE_FORMATTER"), (0, u "Ljava/util/function/BiFunction;"), (0, .class_ 126), (0, u "jdk/internal/util/Preconditions$2"), (3, u "AIOOBE_FORMATTER"), (0, .class_ 132), (0, u "jdk/internal/util/Preconditions$3"), (3, u "IOOBE_FORMATTER")] 57

def k15m0 : Method := { name := "<init>", desc := "()V", sig := { parameters := [], returnType := none }, accessFlags := 1, code := none }
/-- jdk/internal/util/Preconditions -/
def k15 : Class := { plain "jdk/internal/util/Preconditions" (some 0) with
  accessFlags := 33
  interfaces := #[]
  cf := some (fileOf pool15 24 #[.nestMembers #[55, 131, 125, 114]] #[{ accessFlags := 1, nameIndex := 5, descriptorIndex := 6, attributes := #[] }] 33 2 #[] #[{ accessFlags := 25, nameIndex := 123, descriptorIndex := 124, attributes := #[] }, { accessFlags := 25, nameIndex := 130, descriptorIndex := 124, attributes := #[] }, { accessFlags := 25, nameIndex := 136, descriptorIndex := 124, attributes := #[] }])
  fields := #[{ name := "SIOOBE_FORMATTER", type := (.object "java/util/function/BiFunction"), accessFlags := 25, slot := 0, constantValue := 0 }, { name := "AIOOBE_FORMATTER", type := (.object "java/util/function/BiFunction"), accessFlags := 25, slot := 1, constantValue := 0 }, { name := "IOOBE_FORMATTER", type := (.object "java/util/function/BiFunction"), accessFlags := 25, slot := 2, constantValue := 0 }]
  methods := #[k15m0]
  instanceTypes := #[]
  staticTypes := #[(.object "java/util/function/BiFunction"), (.object "java/util/function/BiFunction"), (.object "java/util/function/BiFunction")]
  resolved := Array.replicate 194 none
  statics := some 2 }

def pool16 : Array CpInfo := pool [(9, u "<init>"), (6, .class_ 18), (1, u "java/lang/Object"), (0, u "()V"), (1, .class_ 23), (1, u "jdk/internal/util/ArraysSupport"), (0, u "LOG2_ARRAY_LONG_INDEX_SCALE"), (0, u "I"), (2, u "U"), (0, u "Ljdk/internal/misc/Unsafe;"), (8, u "BIG_ENDIAN"), (0, u "Z"), (8, u "LOG2_BYTE_BIT_SIZE"), (4, u "LOG2_ARRAY_INT_INDEX_SCALE"), (54, u "JLA"), (0, u "Ljdk/internal/access/JavaLangAccess;"), (11, u "LOG2_ARRAY_BOOLEAN_INDEX_SCALE"), (9, u "LOG2_ARRAY_BYTE_INDEX_SCALE"), (5, u "LOG2_ARRAY_CHAR_INDEX_SCALE"), (5, u "LOG2_ARRAY_SHORT_INDEX_SCALE"), (18, u "LOG2_ARRAY_FLOAT_INDEX_SCALE"), (24, u "LOG2_ARRAY_DOUBLE_INDEX_SCALE"), (89, u "T_BOOLEAN"), (2, u "T_CHAR"), (1, u "T_FLOAT"), (1, u "T_DOUBLE"), (1, u "T_BYTE"), (1, u "T_SHORT"), (1, u "T_INT"), (1, u "T_LONG"), (1, u "SOFT_MAX_ARRAY_LENGTH")] 83

def k16m0 : Method := { name := "<init>", desc := "()V", sig := { parameters := [], returnType := none }, accessFlags := 2, code := none }
/-- jdk/internal/util/ArraysSupport -/
def k16 : Class := { plain "jdk/internal/util/ArraysSupport" (some 0) with
  accessFlags := 33
  interfaces := #[]
  cf := some (fileOf pool16 21 #[] #[{ accessFlags := 2, nameIndex := 9, descriptorIndex := 19, attributes := #[] }] 33 16 #[] #[{ accessFlags := 24, nameIndex := 28, descriptorIndex := 29, attributes := #[] }, { accessFlags := 26, nameIndex := 38, descriptorIndex := 39, attributes := #[] }, { accessFlags := 25, nameIndex := 121, descriptorIndex := 25, attributes := #[] }, { accessFlags := 25, nameIndex := 131, descriptorIndex := 25, attributes := #[] }, { accessFlags := 25, nameIndex := 137, descriptorIndex := 25, attributes := #[] }, { accessFlags := 25, nameIndex := 143, descriptorIndex := 25, attributes := #[] }, { accessFlags := 25, nameIndex := 53, descriptorIndex := 25, attributes := #[] }, { accessFlags := 25, nameIndex := 24, descriptorIndex := 25, attributes := #[] }, { accessFlags := 25, nameIndex := 162, descriptorIndex := 25, attributes := #[] }, { accessFlags := 25, nameIndex := 187, descriptorIndex := 25, attributes := #[] }, { accessFlags := 26, nameIndex := 48, descriptorIndex := 25, attributes := #[] }, { accessFlags := 25, nameIndex := 277, descriptorIndex := 25, attributes := #[] }, { accessFlags := 25, nameIndex := 280, descriptorIndex := 25, attributes := #[] }, { accessFlags := 25, nameIndex := 282, descriptorIndex := 25, attributes := #[] }, { accessFlags := 25, nameIndex := 284, descriptorIndex := 25, attributes := #[] }, { accessFlags := 25, nameIndex := 286, descriptorIndex := 25, attributes := #[] }, { accessFlags := 25, nameIndex := 288, descriptorIndex := 25, attributes := #[] }, { accessFlags := 25, nameIndex := 290, descriptorIndex := 25, attributes := #[] }, { accessFlags := 25, nameIndex := 292, descriptorIndex := 25, attributes := #[] }, { accessFlags := 26, nameIndex := 108, descriptorIndex := 109, attributes := #[] }, { accessFlags := 25, nameIndex := 294, descriptorIndex := 25, attributes := #[] }])
  fields := #[{ name := "U", type := (.object "jdk/internal/misc/Unsafe"), accessFlags := 24, slot := 0, constantValue := 0 }, { name := "BIG_ENDIAN", type := .boolean, accessFlags := 26, slot := 1, constantValue := 0 }, { name := "LOG2_ARRAY_BOOLEAN_INDEX_SCALE", type := .int, accessFlags := 25, slot := 2, constantValue := 0 }, { name := "LOG2_ARRAY_BYTE_INDEX_SCALE", type := .int, accessFlags := 25, slot := 3, constantValue := 0 }, { name := "LOG2_ARRAY_CHAR_INDEX_SCALE", type := .int, accessFlags := 25, slot := 4, constantValue := 0 }, { name := "LOG2_ARRAY_SHORT_INDEX_SCALE", type := .int, accessFlags := 25, slot := 5, constantValue := 0 }, { name := "LOG2_ARRAY_INT_INDEX_SCALE", type := .int, accessFlags := 25, slot := 6, constantValue := 0 }, { name := "LOG2_ARRAY_LONG_INDEX_SCALE", type := .int, accessFlags := 25, slot := 7, constantValue := 0 }, { name := "LOG2_ARRAY_FLOAT_INDEX_SCALE", type := .int, accessFlags := 25, slot := 8, constantValue := 0 }, { name := "LOG2_ARRAY_DOUBLE_INDEX_SCALE", type := .int, accessFlags := 25, slot := 9, constantValue := 0 }, { name := "LOG2_BYTE_BIT_SIZE", type := .int, accessFlags := 26, slot := 10, constantValue := 0 }, { name := "T_BOOLEAN", type := .int, accessFlags := 25, slot := 11, constantValue := 0 }, { name := "T_CHAR", type := .int, accessFlags := 25, slot := 12, constantValue := 0 }, { name := "T_FLOAT", type := .int, accessFlags := 25, slot := 13, constantValue := 0 }, { name := "T_DOUBLE", type := .int, accessFlags := 25, slot := 14, constantValue := 0 }, { name := "T_BYTE", type := .int, accessFlags := 25, slot := 15, constantValue := 0 }, { name := "T_SHORT", type := .int, accessFlags := 25, slot := 16, constantValue := 0 }, { name := "T_INT", type := .int, accessFlags := 25, slot := 17, constantValue := 0 }, { name := "T_LONG", type := .int, accessFlags := 25, slot := 18, constantValue := 0 }, { name := "JLA", type := (.object "jdk/internal/access/JavaLangAccess"), accessFlags := 26, slot := 19, constantValue := 0 }, { name := "SOFT_MAX_ARRAY_LENGTH", type := .int, accessFlags := 25, slot := 20, constantValue := 0 }]
  methods := #[k16m0]
  instanceTypes := #[]
  staticTypes := #[(.object "jdk/internal/misc/Unsafe"), .boolean, .int, .int, .int, .int, .int, .int, .int, .int, .int, .int, .int, .int, .int, .int, .int, .int, .int, (.object "jdk/internal/access/JavaLangAccess"), .int]
  resolved := Array.replicate 378 none
  statics := none }

def pool17 : Array CpInfo := pool [(1, u "java/lang/Cloneable"), (0, .class_ 1), (0, u "java/lang/Object"), (0, .class_ 3)] 3

/-- java/lang/Cloneable -/
def k17 : Class := { plain "java/lang/Cloneable" (some 0) with
  accessFlags := 1537
  interfaces := #[]
  cf := some (fileOf pool17 2 #[] #[] 1537 4 #[] #[])
  fields := #[]
  methods := #[]
  instanceTypes := #[]
  staticTypes := #[]
  resolved := Array.replicate 8 none
  statics := none }

/-- the primitive byte -/
def k18 : Class := { plain "byte" none with kind := .primitive 'B', accessFlags := 0x411 }
/-- [B -/
def k19 : Class := { plain "[B" (some 0) with kind := .array 18 .byte, interfaces := #[17, 4], accessFlags := 1041 }

/-- the primitive int -/
def k20 : Class := { plain "int" none with kind := .primitive 'I', accessFlags := 0x411 }
/-- [I -/
def k21 : Class := { plain "[I" (some 0) with kind := .array 20 .int, interfaces := #[17, 4], accessFlags := 1041 }

def heap : Heap := #[{ cls := 7, slots := #[.ref 3, .ref 4, .ref 5, .null], vm := .statics 7 },
  { cls := 11, slots := #[.long 0, .int 1, .null, .int 0, .null, .int 0, .int 0], vm := .statics 11 },
  { cls := 15, slots := #[.null, .null, .null], vm := .statics 15 },
  { cls := 8, slots := #[.null, .int 0, .int 0, .null, .int 1, .null], vm := .none },
  { cls := 14, slots := #[.null, .int 1, .int 0, .null, .int 1, .null], vm := .none },
  { cls := 12, slots := #[.null, .int 2, .int 0, .null, .int 0, .null], vm := .none }]
def classes : Array Class := #[k0, k1, k2, k3, k4, k5, k6, k7, k8, k9, k10, k11, k12, k13, k14, k15, k16, k17, k18, k19, k20, k21]
def interned : List (Array UInt16 × Addr) := []
def slotsUsed : Nat := 32
def theMethod : MethodId := ⟨1, 2⟩
def args0 : Array Value := #[.int 5]
def aboutOver (below : List Frame) : State where
  vm := { classes := classes, interned := interned.toArray }
  heap := heap
  slotsUsed := slotsUsed
  threads := #[{ frames := .invoking theMethod args0 :: below }]
def below0 : List Frame := [.native { method := ⟨0, 0⟩, args := #[] }]
def about1 : State := aboutOver below0
def p0 : Program := .bare "" "" ""
def e0 : Env := launch0.env 0 0 0
theorem w_frames : about1.frames = Frame.invoking theMethod args0 :: below0 := rfl
set_option maxRecDepth 65536 in
theorem w_args : argsFit about1.vm theMethod args0 = true := by decide +kernel
set_option maxRecDepth 65536 in
theorem w_heap : heapFits about1 = true := by decide +kernel
set_option maxRecDepth 65536 in
theorem w_runnable : about1.curStatus? = some .runnable := by decide +kernel
set_option maxRecDepth 65536 in
theorem w_alone : about1.alone = true := by decide +kernel
set_option maxRecDepth 65536 in
theorem w_named : about1.methodNamed? x = some theMethod := by decide +kernel
set_option maxRecDepth 65536 in
theorem w_hears : about1.hears theMethod below0 = true := by decide +kernel
set_option maxRecDepth 65536 in
theorem w_ripe : about1.ripe theMethod args0 below0 = true := by decide +kernel
theorem w_running : about1.status = .running := rfl
set_option maxRecDepth 65536 in
theorem w_room : about1.hasRoom e0.platform room_1 = true :=
  launch0.hasRoom_least _ room_1 (by decide +kernel) (by decide +kernel) (by decide +kernel) (by decide +kernel) (by decide +kernel) (by decide +kernel)
theorem allAtoms_all (ts : List Jvm.Cond) (a : Array Jvm.Value) (st : Jvm.State) : (allAtoms ts).before a st = ts.all (fun c => c.before a st) := by
  induction ts with
  | nil => rfl
  | cons c t ih =>
    show (Jvm.Cond.and c (allAtoms t)).before a st = _
    rw [Jvm.Cond.before_and, ih, List.all_cons]
def words1 : List Jvm.Cond := Jvm.Cond.code x code maxLocals ret :: tables_1
/-- a 'code' word, met by the world's own term for the bytes: nothing is compared byte by byte -/
theorem code_word {y : MethodName} {bytes : ByteArray} {mx : Nat} {rt : Option FieldType} {a : Array Value} {s : State} {m : MethodId} {meth : Method} {c : Code} (h1 : s.methodNamed? y = some m) (h2 : s.vm.method? m = some meth) (h3 : meth.code = some c) (h4 : c.code = bytes)
    (h5 : (c.maxLocals == mx && c.exceptionTable.isEmpty && decide (c.maxStack ≤ mostOperands) && decide (meth.sig.returnType = rt) && !meth.locks && decide (parseMethodDescriptor y.desc = some meth.sig)) = true) : (Jvm.Cond.code y bytes mx rt).before a s = true := by
  simp only [Bool.and_eq_true, beq_iff_eq, Bool.not_eq_true', decide_eq_true_eq] at h5
  obtain ⟨⟨⟨⟨⟨g1, g2⟩, g3⟩, g4⟩, g5⟩, g6⟩ := h5
  simp [Cond.before, Cond.holds, Cond.value, h1, h2, h3, h4, g1, g2, g3, g4, g5, g6]
def isCode : Jvm.Cond → Bool
  | .code _ _ _ _ => true
  | _ => false
theorem all_split {L : List Jvm.Cond} {P : Jvm.Cond → Bool} (h1 : L.all (fun c => isCode c || P c) = true) (h2 : ∀ c ∈ L.filter isCode, P c = true) : L.all P = true := by
  refine List.all_eq_true.mpr fun c hc => ?_
  have h := List.all_eq_true.mp h1 c hc
  rcases Bool.eq_false_or_eq_true (isCode c) with hi | hi
  · exact h2 c (List.mem_filter.mpr ⟨hc, hi⟩)
  · simpa [hi] using h
set_option maxRecDepth 65536 in
theorem w_c0 : (Jvm.Cond.code x code maxLocals ret).before args0 about1 = true := code_word (m := ⟨1, 2⟩) (meth := k1m2) (c := k1c2) (by decide +kernel) rfl rfl rfl (by decide +kernel)
set_option maxRecDepth 65536 in
theorem w_c1 : (Jvm.Cond.code ({ cls := "com/example/novation/novation/model/SeriesKindChangesPinLaw", name := "pick", desc := "(I)Lcom/example/novation/novation/model/SeriesKind;" } : Jvm.MethodName) method_2_code (1 : Nat) (Option.some (Jvm.ClassFile.FieldType.object "com/example/novation/novation/model/SeriesKind"))).before args0 about1 = true := code_word (m := ⟨1, 1⟩) (meth := k1m1) (c := k1c1) (by decide +kernel) rfl rfl rfl (by decide +kernel)
set_option maxRecDepth 65536 in
theorem w_c2 : (Jvm.Cond.code ({ cls := "com/example/novation/novation/model/SeriesKind", name := "changes", desc := "()Ljava/lang/String;" } : Jvm.MethodName) prog_48_method_7_code (1 : Nat) (Option.some (Jvm.ClassFile.FieldType.object "java/lang/String"))).before args0 about1 = true := code_word (m := ⟨7, 1⟩) (meth := k7m1) (c := k7c1) (by decide +kernel) rfl rfl rfl (by decide +kernel)
set_option maxRecDepth 65536 in
theorem w_c3 : (Jvm.Cond.code ({ cls := "java/lang/String", name := "equals", desc := "(Ljava/lang/Object;)Z" } : Jvm.MethodName) jdk_42_method_66_code (3 : Nat) (Option.some Jvm.ClassFile.FieldType.boolean)).before args0 about1 = true := code_word (m := ⟨11, 1⟩) (meth := k11m1) (c := k11c1) (by decide +kernel) rfl rfl rfl (by decide +kernel)
set_option maxRecDepth 65536 in
theorem w_c4 : (Jvm.Cond.code ({ cls := "com/example/novation/novation/model/SeriesKind", name := "prices", desc := "()Z" } : Jvm.MethodName) prog_48_method_5_code (1 : Nat) (Option.some Jvm.ClassFile.FieldType.boolean)).before args0 about1 = true := code_word (m := ⟨7, 0⟩) (meth := k7m0) (c := k7c0) (by decide +kernel) rfl rfl rfl (by decide +kernel)
set_option maxRecDepth 65536 in
theorem w_c5 : (Jvm.Cond.code ({ cls := "java/lang/StringLatin1", name := "equals", desc := "([B[B)Z" } : Jvm.MethodName) jdk_43_method_13_code (3 : Nat) (Option.some Jvm.ClassFile.FieldType.boolean)).before args0 about1 = true := code_word (m := ⟨13, 1⟩) (meth := k13m1) (c := k13c1) (by decide +kernel) rfl rfl rfl (by decide +kernel)
def codes1 : List Jvm.Cond := [Jvm.Cond.code x code maxLocals ret, Jvm.Cond.code ({ cls := "com/example/novation/novation/model/SeriesKindChangesPinLaw", name := "pick", desc := "(I)Lcom/example/novation/novation/model/SeriesKind;" } : Jvm.MethodName) method_2_code (1 : Nat) (Option.some (Jvm.ClassFile.FieldType.object "com/example/novation/novation/model/SeriesKind")), Jvm.Cond.code ({ cls := "com/example/novation/novation/model/SeriesKind", name := "changes", desc := "()Ljava/lang/String;" } : Jvm.MethodName) prog_48_method_7_code (1 : Nat) (Option.some (Jvm.ClassFile.FieldType.object "java/lang/String")), Jvm.Cond.code ({ cls := "java/lang/String", name := "equals", desc := "(Ljava/lang/Object;)Z" } : Jvm.MethodName) jdk_42_method_66_code (3 : Nat) (Option.some Jvm.ClassFile.FieldType.boolean), Jvm.Cond.code ({ cls := "com/example/novation/novation/model/SeriesKind", name := "prices", desc := "()Z" } : Jvm.MethodName) prog_48_method_5_code (1 : Nat) (Option.some Jvm.ClassFile.FieldType.boolean), Jvm.Cond.code ({ cls := "java/lang/StringLatin1", name := "equals", desc := "([B[B)Z" } : Jvm.MethodName) jdk_43_method_13_code (3 : Nat) (Option.some Jvm.ClassFile.FieldType.boolean)]
set_option maxRecDepth 65536 in
theorem codes_eq : words1.filter isCode = codes1 := rfl
theorem w_codes : ∀ c ∈ words1.filter isCode, c.before args0 about1 = true := by
  rw [codes_eq]
  intro c hc
  simp only [codes1, List.mem_cons, List.not_mem_nil, or_false] at hc
  rcases hc with rfl | rfl | rfl | rfl | rfl | rfl
  · exact w_c0
  · exact w_c1
  · exact w_c2
  · exact w_c3
  · exact w_c4
  · exact w_c5
set_option maxRecDepth 65536 in
theorem w_t1 : (words1.take 24).all (fun c => isCode c || c.before args0 about1) = true := by decide +kernel
set_option maxRecDepth 65536 in
theorem w_t2 : ((words1.drop 24).take 24).all (fun c => isCode c || c.before args0 about1) = true := by decide +kernel
set_option maxRecDepth 65536 in
theorem w_t3 : ((words1.drop 24).drop 24).all (fun c => isCode c || c.before args0 about1) = true := by decide +kernel
theorem w_tables : (allAtoms (Jvm.Cond.code x code maxLocals ret :: tables_1)).before args0 about1 = true := by
  rw [allAtoms_all]
  show words1.all (fun c => c.before args0 about1) = true
  refine all_split ?_ w_codes
  rw [← List.take_append_drop 24 words1, List.all_append, w_t1, ← List.take_append_drop 24 (words1.drop 24), List.all_append, w_t2, w_t3]
  rfl
set_option maxRecDepth 65536 in
theorem w_rest : rest_1_c.before args0 about1 = true := by decide +kernel
set_option maxRecDepth 65536 in
theorem w_case : (Jvm.Cond.and given_1 narrow_1).before args0 about1 = true := by decide +kernel
set_option maxRecDepth 65536 in
theorem w_consts : constsHeld consts_1 about1 := Jvm.Lit.constsHeldB_iff.mp (by decide +kernel)
theorem w_applies : (headSpec (Jvm.Cond.code x code maxLocals ret :: tables_1) room_1).applies x e0.platform about1 = true :=
  (Spec.applies_iff w_frames).mpr ⟨w_running, w_runnable, w_alone, w_named, w_hears, w_ripe, w_room, w_tables⟩
theorem atStart : AtStart classFile x code maxLocals ret World_1 tables_1 room_1 Calls_1 rest_1 Pre_1 launch0 p0 e0 about1 theMethod args0 below0 :=
  ⟨lists_1, trivial, launch0.admits_env _ _ _, launch0.least_env, fairChoices_fair.cas, fairChoices_fair.clock, w_frames, w_args, w_heap, w_applies, ⟨w_consts, trivial⟩, w_rest, w_case⟩
end start1
theorem witness_1 : WitnessClaimed_1 := ⟨start1.p0, start1.e0, start1.about1, start1.theMethod, start1.args0, start1.below0, start1.atStart⟩
end Jvm.Pilot.@@N@@

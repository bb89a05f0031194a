import JvmDerived
import JvmDerived.Pilot.@@N@@Statement
import JvmDerived.Pilot.@@N@@Code
set_option linter.unusedVariables false
set_option linter.unusedSimpArgs false
@@BLOCK:NumsL.lean.txt@@
namespace Jvm.RoadKit
open Sem ClassFile Op Lib Jvm.Stand Jvm.Free Jvm.LawKit
section New
variable {p : Program} {l : Launch} {e : Env} {R : Room} {s : State} {m : MethodId} {args : Array Value} {below : List Frame} {meth : Method} {c : Code} {T : State} {locs : List Loc} {cells slots : Nat}
theorem retI (X : Stand p l e R s m args below meth c T locs cells slots) (hx : p.tables.exec = Jvm.exec) {pc : Nat} {Ls : Array Slot} {z : Int32} {rest : List Value} (hret : meth.sig.returnType = some .int) (hd : decode c.code pc = .ok (.ireturn, 1)) {fs : List Frame}
    (hl : ∀ (f : JFrame) (acts : List Action), f.method = m → f.locked = none → f.entered = [] → (doReturn e (T.setTop f) acts (some (.int z))).1 = T.setFrames fs) : Steps p.tables e below (T.setTop (mkF m pc Ls (.int z :: rest))) (T.setFrames fs) := by
  have hm' : T.vm.method? m = some meth := X.method'
  have hn : narrow .int (.int z) = .int z := rfl
  show Steps p.tables e below (T.setTop { method := m, pc := pc, locals := Ls, stack := _ :: rest, locked := none }) _
  jvm_step X.here [X.here.top, hx, hd, hm', hret, hn]
  first | (intro acts; rw [hl _ acts rfl rfl rfl]) | rw [hl _ _ rfl rfl rfl]
  exact Steps.refl _
end New
end Jvm.RoadKit
namespace Jvm.Pilot.@@N@@
open Jvm Jvm.ClassFile Sem Op Lib Jvm.Free Jvm.Stand Jvm.LawKit Jvm.RoadKit Bundle Jvm.Pilot.@@N@@.Jvm.D
theorem own_sta_keep {Z : State} {h h' : Heap} {C n d : String} {v : Value} {ws : List Addr} (F : Sta Z h C n d v) (K : Keep h h' ws) (q : ∀ x ∈ ws, ∀ c : Cell, h[x]? = some c → c.vm.isStatics = false) : Sta Z h' C n d v := by
  obtain ⟨cf, i, k, f, st, cell, h1, h2, h3, h4, h5, h6, h7⟩ := F
  exact ⟨cf, i, k, f, st, cell, h1, h2, h3, h4, K.2.1 st cell h5 (fun m => by have := q st m cell h5; rw [h6] at this; cases this), h6, h7⟩
theorem d5_0 : decode jdk_52_method_21_code 0 = .ok (.iconst 0, 1) := by decide +kernel
theorem d5_1 : decode jdk_52_method_21_code 1 = .ok (.istore 5, 2) := by decide +kernel
theorem d5_3 : decode jdk_52_method_21_code 3 = .ok (.iload 5, 2) := by decide +kernel
theorem d5_5 : decode jdk_52_method_21_code 5 = .ok (.iload 4, 2) := by decide +kernel
theorem d5_7 : decode jdk_52_method_21_code 7 = .ok (.if_icmp .ge 37, 3) := by decide +kernel
theorem d5_10 : decode jdk_52_method_21_code 10 = .ok (.aload_n 0, 1) := by decide +kernel
theorem d5_11 : decode jdk_52_method_21_code 11 = .ok (.iload_n 1, 1) := by decide +kernel
theorem d5_12 : decode jdk_52_method_21_code 12 = .ok (.caload, 1) := by decide +kernel
theorem d5_13 : decode jdk_52_method_21_code 13 = .ok (.istore 6, 2) := by decide +kernel
theorem d5_15 : decode jdk_52_method_21_code 15 = .ok (.iload 6, 2) := by decide +kernel
theorem d5_17 : decode jdk_52_method_21_code 17 = .ok (.sipush 255, 3) := by decide +kernel
theorem d5_20 : decode jdk_52_method_21_code 20 = .ok (.if_icmp .le 6, 3) := by decide +kernel
theorem d5_23 : decode jdk_52_method_21_code 23 = .ok (.iload 5, 2) := by decide +kernel
theorem d5_25 : decode jdk_52_method_21_code 25 = .ok (.ireturn, 1) := by decide +kernel
theorem d5_26 : decode jdk_52_method_21_code 26 = .ok (.aload_n 2, 1) := by decide +kernel
theorem d5_27 : decode jdk_52_method_21_code 27 = .ok (.iload_n 3, 1) := by decide +kernel
theorem d5_28 : decode jdk_52_method_21_code 28 = .ok (.iload 6, 2) := by decide +kernel
theorem d5_30 : decode jdk_52_method_21_code 30 = .ok (.i2b, 1) := by decide +kernel
theorem d5_31 : decode jdk_52_method_21_code 31 = .ok (.bastore, 1) := by decide +kernel
theorem d5_32 : decode jdk_52_method_21_code 32 = .ok (.iinc 1 1, 3) := by decide +kernel
theorem d5_35 : decode jdk_52_method_21_code 35 = .ok (.iinc 3 1, 3) := by decide +kernel
theorem d5_38 : decode jdk_52_method_21_code 38 = .ok (.iinc 5 1, 3) := by decide +kernel
theorem d5_41 : decode jdk_52_method_21_code 41 = .ok (.goto (-38), 3) := by decide +kernel
theorem d5_44 : decode jdk_52_method_21_code 44 = .ok (.iload 4, 2) := by decide +kernel
theorem d5_46 : decode jdk_52_method_21_code 46 = .ok (.ireturn, 1) := by decide +kernel
theorem pn_5 : plainName "java/lang/StringUTF16" = true := by first | (simp [plainName, overriddenIn]; done) | decide +kernel
theorem pd_0 : parseMethodDescriptor "([C)V" = some ⟨[(.array .char)], none⟩ := by decide +kernel
theorem pd_1 : parseMethodDescriptor "([CIILjava/lang/Void;)V" = some ⟨[(.array .char), .int, .int, (.object "java/lang/Void")], none⟩ := by decide +kernel
theorem pd_2 : parseMethodDescriptor "()V" = some ⟨[], none⟩ := by decide +kernel
theorem pd_3 : parseMethodDescriptor "([CII)[B" = some ⟨[(.array .char), .int, .int], some (.array .byte)⟩ := by decide +kernel
theorem pd_4 : parseMethodDescriptor "([CI[BII)I" = some ⟨[(.array .char), .int, (.array .byte), .int, .int], some .int⟩ := by decide +kernel
theorem pd_5 : parseMethodDescriptor "([BI)B" = some ⟨[(.array .byte), .int], some .byte⟩ := by decide +kernel
theorem pd_6 : parseMethodDescriptor "(Ljava/lang/String;)V" = some ⟨[(.object "java/lang/String")], none⟩ := by decide +kernel
theorem pd_7 : parseMethodDescriptor "(C)Ljava/lang/String;" = some ⟨[.char], some (.object "java/lang/String")⟩ := by decide +kernel
theorem pd_8 : parseMethodDescriptor "(C)Z" = some ⟨[.char], some .boolean⟩ := by decide +kernel
theorem pd_9 : parseMethodDescriptor "(C)[B" = some ⟨[.char], some (.array .byte)⟩ := by decide +kernel
theorem pd_10 : parseMethodDescriptor "([BB)V" = some ⟨[(.array .byte), .byte], none⟩ := by decide +kernel
theorem pd_11 : parseMethodDescriptor "(Lcom/example/pertinet/pertinet/satisfiability/BooleanVariable;)Lcom/example/pertinet/pertinet/satisfiability/Formula;" = some ⟨[(.object "com/example/pertinet/pertinet/satisfiability/BooleanVariable")], some (.object "com/example/pertinet/pertinet/satisfiability/Formula")⟩ := by decide +kernel
theorem pd_12 : parseMethodDescriptor "(Lcom/example/pertinet/pertinet/satisfiability/Atom;Z)V" = some ⟨[(.object "com/example/pertinet/pertinet/satisfiability/Atom"), .boolean], none⟩ := by decide +kernel
theorem pd_13 : parseMethodDescriptor "()Lcom/example/pertinet/pertinet/satisfiability/Atom;" = some ⟨[], some (.object "com/example/pertinet/pertinet/satisfiability/Atom")⟩ := by decide +kernel
theorem pd_14 : parseMethodDescriptor "()Z" = some ⟨[], some .boolean⟩ := by decide +kernel
theorem ef_5 (m : MethodId) (x0 : Addr) (x1 : Int32) (x2 : Addr) (x3 : Int32) (x4 : Int32) : entryFrame m #[(.ref x0), (.int x1), (.ref x2), (.int x3), (.int x4)] 7 = mkF m 0 #[.val (.ref x0), .val (.int x1), .val (.ref x2), .val (.int x3), .val (.int x4), .unset, .unset] [] := by first | (simp [entryFrame, mkF, argsToLocals, Value.category]; done) | rfl
def Q5 (Z : State) (a0 : Addr) (a2 : Addr) (kc kb : ClassId) (c0 c1 : Int32) (h0 : Heap) (n0 : Nat) (v : Option Value) (h : Heap) (L : List Loc) : Prop := v = some (.int (2 : Int32)) ∧ Fr n0 L ∧ Keep h0 h [a2] ∧ Arv Z h a2 kb .byte (2 : Int32) [(.int (nar .byte (c0.toInt8.toInt32))), (.int (nar .byte (c1.toInt8.toInt32)))] (.int (0 : Int32))
set_option maxRecDepth 65536 in
set_option maxHeartbeats 40000000 in
theorem rm5 (l : Launch) (Z : State) (aZ : Array Value) (hw : ∀ d ∈ tables_1, d.before aZ Z = true) (ws : List Jvm.Cond) (a0 : Addr) (a2 : Addr) (kc kb : ClassId) (c0 c1 : Int32) (h0 : Heap) (n0 : Nat) (Z0 : n0 ≤ h0.size) (V_c : Arv Z h0 a0 kc .char (2 : Int32) [(.int c0), (.int c1)] (.int (0 : Int32))) (V_b : Arv Z h0 a2 kb .byte (2 : Int32) [(.int (0 : Int32)), (.int (0 : Int32))] (.int (0 : Int32))) (hne : a0 ≠ a2) (g_a2 : n0 ≤ a2) (hc0 : ¬ (255 : Int32) < c0) (hc1 : ¬ (255 : Int32) < c1) :
    MetFree l (⟨"java/lang/StringUTF16", "compress", "([CI[BII)I"⟩ : MethodName) (head1 (Jvm.Cond.code (⟨"java/lang/StringUTF16", "compress", "([CI[BII)I"⟩ : MethodName) jdk_52_method_21_code 7 (some .int) :: ws) ({ frames := 0, cells := 0, slots := 0, locals := 0 } : Room)) (fun a U => a = #[(.ref a0), (.int (0 : Int32)), (.ref a2), (.int (0 : Int32)), (.int (2 : Int32))] ∧ Z.Warmed39 U.vm ∧ U.heap = h0) (fun _ _ _ _ _ => True) (fun _ U oc U' => ∃ v L, oc = .returned v ∧ Q5 Z a0 a2 kc kb c0 c1 h0 n0 v U'.heap L ∧ FrameEnd U oc U' L ({ frames := 0, cells := 0, slots := 0, locals := 0 } : Room).cells ({ frames := 0, cells := 0, slots := 0, locals := 0 } : Room).slots) := by
  refine MetFree.of_bodySF (plainFor_of_name pn_5) hisR ?_
  intro p e s m args below meth c s₁ Bd hml0 hP hK
  obtain ⟨rfl, hZ, hh⟩ := hP
  have hx := Bd.exec
  have hby := Bd.bytes
  have hml : c.maxLocals = 7 := hml0
  have hown : s.vm.findClass "java/lang/StringUTF16" = some m.cls := findClass_of_methodNamed Bd.named
  have hnm := (name_of_methodNamed Bd.named Bd.method).1
  have X0 : Stand p l e ({ frames := 0, cells := 0, slots := 0, locals := 0 } : Room) s m #[(.ref a0), (.int (0 : Int32)), (.ref a2), (.int (0 : Int32)), (.int (2 : Int32))] below meth c s₁ [] 0 0 := Stand.of_body Bd
  have e0 : s₁.heap = h0 := by rw [← hh, Bd.state]; rfl
  have N0 := Fr.nil n0
  have pre0 : ∀ t, Steps p.tables e below (s₁.setTop (mkF m 0 #[.val (.ref a0), .val (.int (0 : Int32)), .val (.ref a2), .val (.int (0 : Int32)), .val (.int (2 : Int32)), .unset, .unset] [])) t → Steps p.tables e below (s₁.setTop (entryFrame m #[(.ref a0), (.int (0 : Int32)), (.ref a2), (.int (0 : Int32)), (.int (2 : Int32))] 7)) t := fun t kt => castTop (ef_5 m a0 (0 : Int32) a2 (0 : Int32) (2 : Int32)) kt
  have pre1 : ∀ t, Steps p.tables e below (s₁.setTop (mkF m 7 #[.val (.ref a0), .val (.int (0 : Int32)), .val (.ref a2), .val (.int (0 : Int32)), .val (.int (2 : Int32)), .val (.int (0 : Int32)), .unset] [(.int (2 : Int32)), (.int (0 : Int32))])) t → Steps p.tables e below (s₁.setTop (entryFrame m #[(.ref a0), (.int (0 : Int32)), (.ref a2), (.int (0 : Int32)), (.int (2 : Int32))] 7)) t := fun t kt => by
    refine pre0 _ ?_
    show Steps p.tables e below (s₁.setTop (mkF m 0 #[.val (.ref a0), .val (.int (0 : Int32)), .val (.ref a2), .val (.int (0 : Int32)), .val (.int (2 : Int32)), .unset, .unset] [])) _
    refine XS.iconst X0.here hx rfl (hb hby d5_0) ?_
    show Steps p.tables e below (s₁.setTop (mkF m 1 #[.val (.ref a0), .val (.int (0 : Int32)), .val (.ref a2), .val (.int (0 : Int32)), .val (.int (2 : Int32)), .unset, .unset] [(.int (0 : Int32))])) _
    refine XS.istore X0.here hx rfl (hb hby d5_1) rfl (l' := #[.val (.ref a0), .val (.int (0 : Int32)), .val (.ref a2), .val (.int (0 : Int32)), .val (.int (2 : Int32)), .val (.int (0 : Int32)), .unset]) rfl ?_
    show Steps p.tables e below (s₁.setTop (mkF m 3 #[.val (.ref a0), .val (.int (0 : Int32)), .val (.ref a2), .val (.int (0 : Int32)), .val (.int (2 : Int32)), .val (.int (0 : Int32)), .unset] [])) _
    refine XS.iload X0.here hx rfl (hb hby d5_3) rfl ?_
    show Steps p.tables e below (s₁.setTop (mkF m 5 #[.val (.ref a0), .val (.int (0 : Int32)), .val (.ref a2), .val (.int (0 : Int32)), .val (.int (2 : Int32)), .val (.int (0 : Int32)), .unset] [(.int (0 : Int32))])) _
    refine XS.iload X0.here hx rfl (hb hby d5_5) rfl ?_
    show Steps p.tables e below (s₁.setTop (mkF m 7 #[.val (.ref a0), .val (.int (0 : Int32)), .val (.ref a2), .val (.int (0 : Int32)), .val (.int (2 : Int32)), .val (.int (0 : Int32)), .unset] [(.int (2 : Int32)), (.int (0 : Int32))])) _
    exact kt
  have pre2 : ∀ t, Steps p.tables e below (s₁.setTop (mkF m 10 #[.val (.ref a0), .val (.int (0 : Int32)), .val (.ref a2), .val (.int (0 : Int32)), .val (.int (2 : Int32)), .val (.int (0 : Int32)), .unset] [])) t → Steps p.tables e below (s₁.setTop (entryFrame m #[(.ref a0), (.int (0 : Int32)), (.ref a2), (.int (0 : Int32)), (.int (2 : Int32))] 7)) t := fun t kt => by
    refine pre1 _ ?_
    show Steps p.tables e below (s₁.setTop (mkF m 7 #[.val (.ref a0), .val (.int (0 : Int32)), .val (.ref a2), .val (.int (0 : Int32)), .val (.int (2 : Int32)), .val (.int (0 : Int32)), .unset] [(.int (2 : Int32)), (.int (0 : Int32))])) _
    refine XS.icmpNo X0.here hx rfl (hb hby d5_7) rfl (tlt (by decide : (0 : Int32) < (2 : Int32))).2.1 ?_
    show Steps p.tables e below (s₁.setTop (mkF m 10 #[.val (.ref a0), .val (.int (0 : Int32)), .val (.ref a2), .val (.int (0 : Int32)), .val (.int (2 : Int32)), .val (.int (0 : Int32)), .unset] [])) _
    exact kt
  have pre3 : ∀ t, Steps p.tables e below (s₁.setTop (mkF m 12 #[.val (.ref a0), .val (.int (0 : Int32)), .val (.ref a2), .val (.int (0 : Int32)), .val (.int (2 : Int32)), .val (.int (0 : Int32)), .unset] [(.int (0 : Int32)), (.ref a0)])) t → Steps p.tables e below (s₁.setTop (entryFrame m #[(.ref a0), (.int (0 : Int32)), (.ref a2), (.int (0 : Int32)), (.int (2 : Int32))] 7)) t := fun t kt => by
    refine pre2 _ ?_
    show Steps p.tables e below (s₁.setTop (mkF m 10 #[.val (.ref a0), .val (.int (0 : Int32)), .val (.ref a2), .val (.int (0 : Int32)), .val (.int (2 : Int32)), .val (.int (0 : Int32)), .unset] [])) _
    refine XS.aloadN X0.here hx rfl (hb hby d5_10) rfl rfl ?_
    show Steps p.tables e below (s₁.setTop (mkF m 11 #[.val (.ref a0), .val (.int (0 : Int32)), .val (.ref a2), .val (.int (0 : Int32)), .val (.int (2 : Int32)), .val (.int (0 : Int32)), .unset] [(.ref a0)])) _
    refine XS.iloadN X0.here hx rfl (hb hby d5_11) rfl ?_
    show Steps p.tables e below (s₁.setTop (mkF m 12 #[.val (.ref a0), .val (.int (0 : Int32)), .val (.ref a2), .val (.int (0 : Int32)), .val (.int (2 : Int32)), .val (.int (0 : Int32)), .unset] [(.int (0 : Int32)), (.ref a0)])) _
    exact kt
  have Vo_a0_4 := V_c
  obtain ⟨cl_a0_4, Ar_a0_4, q_a0_4, S_a0_4, M_a0_4, H_a0_4, G_a0_4⟩ := Vo_a0_4
  have hin4 : ¬ ((0 : Int32) < 0 ∨ cl_a0_4.slots.size ≤ ((0 : Int32)).toNatClampNeg) := inb_of S_a0_4 ⟨by decide, by decide⟩
  have hat4 : cl_a0_4.slots[((0 : Int32)).toNatClampNeg]? = some (.int c0) := H_a0_4.at hin4 rfl
  have pre5 : ∀ t, Steps p.tables e below (s₁.setTop (mkF m 13 #[.val (.ref a0), .val (.int (0 : Int32)), .val (.ref a2), .val (.int (0 : Int32)), .val (.int (2 : Int32)), .val (.int (0 : Int32)), .unset] [(.int c0)])) t → Steps p.tables e below (s₁.setTop (entryFrame m #[(.ref a0), (.int (0 : Int32)), (.ref a2), (.int (0 : Int32)), (.int (2 : Int32))] 7)) t := fun t kt => pre3 _ (X0.caload hx (j := (0 : Int32)) (v := (.int c0)) (by rw [e0]; exact Ar_a0_4.1) (State.isArrayOf_alike hZ.alike Ar_a0_4.2.1) Ar_a0_4.2.2 hin4 hat4 (g := (mkF m 12 #[.val (.ref a0), .val (.int (0 : Int32)), .val (.ref a2), .val (.int (0 : Int32)), .val (.int (2 : Int32)), .val (.int (0 : Int32)), .unset] [(.int (0 : Int32)), (.ref a0)])) rfl rfl (hb hby d5_12) t kt)
  have pre6 : ∀ t, Steps p.tables e below (s₁.setTop (mkF m 20 #[.val (.ref a0), .val (.int (0 : Int32)), .val (.ref a2), .val (.int (0 : Int32)), .val (.int (2 : Int32)), .val (.int (0 : Int32)), .val (.int c0)] [(.int (255 : Int32)), (.int c0)])) t → Steps p.tables e below (s₁.setTop (entryFrame m #[(.ref a0), (.int (0 : Int32)), (.ref a2), (.int (0 : Int32)), (.int (2 : Int32))] 7)) t := fun t kt => by
    refine pre5 _ ?_
    show Steps p.tables e below (s₁.setTop (mkF m 13 #[.val (.ref a0), .val (.int (0 : Int32)), .val (.ref a2), .val (.int (0 : Int32)), .val (.int (2 : Int32)), .val (.int (0 : Int32)), .unset] [(.int c0)])) _
    refine XS.istore X0.here hx rfl (hb hby d5_13) rfl (l' := #[.val (.ref a0), .val (.int (0 : Int32)), .val (.ref a2), .val (.int (0 : Int32)), .val (.int (2 : Int32)), .val (.int (0 : Int32)), .val (.int c0)]) rfl ?_
    show Steps p.tables e below (s₁.setTop (mkF m 15 #[.val (.ref a0), .val (.int (0 : Int32)), .val (.ref a2), .val (.int (0 : Int32)), .val (.int (2 : Int32)), .val (.int (0 : Int32)), .val (.int c0)] [])) _
    refine XS.iload X0.here hx rfl (hb hby d5_15) rfl ?_
    show Steps p.tables e below (s₁.setTop (mkF m 17 #[.val (.ref a0), .val (.int (0 : Int32)), .val (.ref a2), .val (.int (0 : Int32)), .val (.int (2 : Int32)), .val (.int (0 : Int32)), .val (.int c0)] [(.int c0)])) _
    refine XS.sipush X0.here hx rfl (hb hby d5_17) ?_
    show Steps p.tables e below (s₁.setTop (mkF m 20 #[.val (.ref a0), .val (.int (0 : Int32)), .val (.ref a2), .val (.int (0 : Int32)), .val (.int (2 : Int32)), .val (.int (0 : Int32)), .val (.int c0)] [(.int (255 : Int32)), (.int c0)])) _
    exact kt
  have pre7 : ∀ t, Steps p.tables e below (s₁.setTop (mkF m 26 #[.val (.ref a0), .val (.int (0 : Int32)), .val (.ref a2), .val (.int (0 : Int32)), .val (.int (2 : Int32)), .val (.int (0 : Int32)), .val (.int c0)] [])) t → Steps p.tables e below (s₁.setTop (entryFrame m #[(.ref a0), (.int (0 : Int32)), (.ref a2), (.int (0 : Int32)), (.int (2 : Int32))] 7)) t := fun t kt => by
    refine pre6 _ ?_
    show Steps p.tables e below (s₁.setTop (mkF m 20 #[.val (.ref a0), .val (.int (0 : Int32)), .val (.ref a2), .val (.int (0 : Int32)), .val (.int (2 : Int32)), .val (.int (0 : Int32)), .val (.int c0)] [(.int (255 : Int32)), (.int c0)])) _
    refine XS.icmpYes X0.here hx rfl (pc0 := 20) (pc' := 26) rfl (hb hby d5_20) rfl (flt hc0).2.2.2 (by decide) (by decide) ?_
    show Steps p.tables e below (s₁.setTop (mkF m 26 #[.val (.ref a0), .val (.int (0 : Int32)), .val (.ref a2), .val (.int (0 : Int32)), .val (.int (2 : Int32)), .val (.int (0 : Int32)), .val (.int c0)] [])) _
    exact kt
  have pre8 : ∀ t, Steps p.tables e below (s₁.setTop (mkF m 31 #[.val (.ref a0), .val (.int (0 : Int32)), .val (.ref a2), .val (.int (0 : Int32)), .val (.int (2 : Int32)), .val (.int (0 : Int32)), .val (.int c0)] [(.int (c0.toInt8.toInt32)), (.int (0 : Int32)), (.ref a2)])) t → Steps p.tables e below (s₁.setTop (entryFrame m #[(.ref a0), (.int (0 : Int32)), (.ref a2), (.int (0 : Int32)), (.int (2 : Int32))] 7)) t := fun t kt => by
    refine pre7 _ ?_
    show Steps p.tables e below (s₁.setTop (mkF m 26 #[.val (.ref a0), .val (.int (0 : Int32)), .val (.ref a2), .val (.int (0 : Int32)), .val (.int (2 : Int32)), .val (.int (0 : Int32)), .val (.int c0)] [])) _
    refine XS.aloadN X0.here hx rfl (hb hby d5_26) rfl rfl ?_
    show Steps p.tables e below (s₁.setTop (mkF m 27 #[.val (.ref a0), .val (.int (0 : Int32)), .val (.ref a2), .val (.int (0 : Int32)), .val (.int (2 : Int32)), .val (.int (0 : Int32)), .val (.int c0)] [(.ref a2)])) _
    refine XS.iloadN X0.here hx rfl (hb hby d5_27) rfl ?_
    show Steps p.tables e below (s₁.setTop (mkF m 28 #[.val (.ref a0), .val (.int (0 : Int32)), .val (.ref a2), .val (.int (0 : Int32)), .val (.int (2 : Int32)), .val (.int (0 : Int32)), .val (.int c0)] [(.int (0 : Int32)), (.ref a2)])) _
    refine XS.iload X0.here hx rfl (hb hby d5_28) rfl ?_
    show Steps p.tables e below (s₁.setTop (mkF m 30 #[.val (.ref a0), .val (.int (0 : Int32)), .val (.ref a2), .val (.int (0 : Int32)), .val (.int (2 : Int32)), .val (.int (0 : Int32)), .val (.int c0)] [(.int c0), (.int (0 : Int32)), (.ref a2)])) _
    refine XS.i2b X0.here hx rfl (hb hby d5_30) rfl ?_
    show Steps p.tables e below (s₁.setTop (mkF m 31 #[.val (.ref a0), .val (.int (0 : Int32)), .val (.ref a2), .val (.int (0 : Int32)), .val (.int (2 : Int32)), .val (.int (0 : Int32)), .val (.int c0)] [(.int (c0.toInt8.toInt32)), (.int (0 : Int32)), (.ref a2)])) _
    exact kt
  have Vo_a2_9 := V_b
  obtain ⟨cl_a2_9, Ar_a2_9, q_a2_9, S_a2_9, M_a2_9, H_a2_9, G_a2_9⟩ := Vo_a2_9
  have hin9 : ¬ ((0 : Int32) < 0 ∨ cl_a2_9.slots.size ≤ ((0 : Int32)).toNatClampNeg) := inb_of S_a2_9 ⟨by decide, by decide⟩
  obtain ⟨T9, h9, X9, e9, W9, st9⟩ := stB X0 hx hZ e0 Ar_a2_9 (j := (0 : Int32)) hin9 (g := (mkF m 31 #[.val (.ref a0), .val (.int (0 : Int32)), .val (.ref a2), .val (.int (0 : Int32)), .val (.int (2 : Int32)), .val (.int (0 : Int32)), .val (.int c0)] [(.int (c0.toInt8.toInt32)), (.int (0 : Int32)), (.ref a2)])) rfl rfl (hb hby d5_31)
  have V9_a2 : Arv Z h9 a2 kb .byte (2 : Int32) [(.int (nar .byte (c0.toInt8.toInt32))), (.int (0 : Int32))] (.int (0 : Int32)) := Arv.set Ar_a2_9 q_a2_9 S_a2_9 M_a2_9 H_a2_9 G_a2_9 (fits_nar_byte _) W9 0 rfl (Nat.le_of_ble_eq_true rfl)
  have F9_0 := V_c.other W9 hne
  have F9_1 := V9_a2
  have Zs9 : n0 ≤ h9.size := Nat.le_trans Z0 (Keep.of_wr W9).1
  have K0 := Keep.refl h0 [a2]
  have K9 := K0.wr W9 (Or.inl (List.mem_of_getElem? (i := 0) rfl))
  have N9 := Fr.snoc X9 N0 g_a2
  have pre9 : ∀ t, Steps p.tables e below (T9.setTop (mkF m 32 #[.val (.ref a0), .val (.int (0 : Int32)), .val (.ref a2), .val (.int (0 : Int32)), .val (.int (2 : Int32)), .val (.int (0 : Int32)), .val (.int c0)] [])) t → Steps p.tables e below (s₁.setTop (entryFrame m #[(.ref a0), (.int (0 : Int32)), (.ref a2), (.int (0 : Int32)), (.int (2 : Int32))] 7)) t := fun t kt => pre8 _ (st9 t kt)
  have pre10 : ∀ t, Steps p.tables e below (T9.setTop (mkF m 7 #[.val (.ref a0), .val (.int ((0 : Int32) + (1 : Int32))), .val (.ref a2), .val (.int ((0 : Int32) + (1 : Int32))), .val (.int (2 : Int32)), .val (.int ((0 : Int32) + (1 : Int32))), .val (.int c0)] [(.int (2 : Int32)), (.int ((0 : Int32) + (1 : Int32)))])) t → Steps p.tables e below (s₁.setTop (entryFrame m #[(.ref a0), (.int (0 : Int32)), (.ref a2), (.int (0 : Int32)), (.int (2 : Int32))] 7)) t := fun t kt => by
    refine pre9 _ ?_
    show Steps p.tables e below (T9.setTop (mkF m 32 #[.val (.ref a0), .val (.int (0 : Int32)), .val (.ref a2), .val (.int (0 : Int32)), .val (.int (2 : Int32)), .val (.int (0 : Int32)), .val (.int c0)] [])) _
    refine XS.iinc X9.here hx rfl (hb hby d5_32) rfl (l' := #[.val (.ref a0), .val (.int ((0 : Int32) + (1 : Int32))), .val (.ref a2), .val (.int (0 : Int32)), .val (.int (2 : Int32)), .val (.int (0 : Int32)), .val (.int c0)]) rfl ?_
    show Steps p.tables e below (T9.setTop (mkF m 35 #[.val (.ref a0), .val (.int ((0 : Int32) + (1 : Int32))), .val (.ref a2), .val (.int (0 : Int32)), .val (.int (2 : Int32)), .val (.int (0 : Int32)), .val (.int c0)] [])) _
    refine XS.iinc X9.here hx rfl (hb hby d5_35) rfl (l' := #[.val (.ref a0), .val (.int ((0 : Int32) + (1 : Int32))), .val (.ref a2), .val (.int ((0 : Int32) + (1 : Int32))), .val (.int (2 : Int32)), .val (.int (0 : Int32)), .val (.int c0)]) rfl ?_
    show Steps p.tables e below (T9.setTop (mkF m 38 #[.val (.ref a0), .val (.int ((0 : Int32) + (1 : Int32))), .val (.ref a2), .val (.int ((0 : Int32) + (1 : Int32))), .val (.int (2 : Int32)), .val (.int (0 : Int32)), .val (.int c0)] [])) _
    refine XS.iinc X9.here hx rfl (hb hby d5_38) rfl (l' := #[.val (.ref a0), .val (.int ((0 : Int32) + (1 : Int32))), .val (.ref a2), .val (.int ((0 : Int32) + (1 : Int32))), .val (.int (2 : Int32)), .val (.int ((0 : Int32) + (1 : Int32))), .val (.int c0)]) rfl ?_
    show Steps p.tables e below (T9.setTop (mkF m 41 #[.val (.ref a0), .val (.int ((0 : Int32) + (1 : Int32))), .val (.ref a2), .val (.int ((0 : Int32) + (1 : Int32))), .val (.int (2 : Int32)), .val (.int ((0 : Int32) + (1 : Int32))), .val (.int c0)] [])) _
    refine XS.goto X9.here hx rfl (pc0 := 41) (pc' := 3) rfl (hb hby d5_41) (by decide) (by decide) ?_
    show Steps p.tables e below (T9.setTop (mkF m 3 #[.val (.ref a0), .val (.int ((0 : Int32) + (1 : Int32))), .val (.ref a2), .val (.int ((0 : Int32) + (1 : Int32))), .val (.int (2 : Int32)), .val (.int ((0 : Int32) + (1 : Int32))), .val (.int c0)] [])) _
    refine XS.iload X9.here hx rfl (hb hby d5_3) rfl ?_
    show Steps p.tables e below (T9.setTop (mkF m 5 #[.val (.ref a0), .val (.int ((0 : Int32) + (1 : Int32))), .val (.ref a2), .val (.int ((0 : Int32) + (1 : Int32))), .val (.int (2 : Int32)), .val (.int ((0 : Int32) + (1 : Int32))), .val (.int c0)] [(.int ((0 : Int32) + (1 : Int32)))])) _
    refine XS.iload X9.here hx rfl (hb hby d5_5) rfl ?_
    show Steps p.tables e below (T9.setTop (mkF m 7 #[.val (.ref a0), .val (.int ((0 : Int32) + (1 : Int32))), .val (.ref a2), .val (.int ((0 : Int32) + (1 : Int32))), .val (.int (2 : Int32)), .val (.int ((0 : Int32) + (1 : Int32))), .val (.int c0)] [(.int (2 : Int32)), (.int ((0 : Int32) + (1 : Int32)))])) _
    exact kt
  have pre11 : ∀ t, Steps p.tables e below (T9.setTop (mkF m 10 #[.val (.ref a0), .val (.int ((0 : Int32) + (1 : Int32))), .val (.ref a2), .val (.int ((0 : Int32) + (1 : Int32))), .val (.int (2 : Int32)), .val (.int ((0 : Int32) + (1 : Int32))), .val (.int c0)] [])) t → Steps p.tables e below (s₁.setTop (entryFrame m #[(.ref a0), (.int (0 : Int32)), (.ref a2), (.int (0 : Int32)), (.int (2 : Int32))] 7)) t := fun t kt => by
    refine pre10 _ ?_
    show Steps p.tables e below (T9.setTop (mkF m 7 #[.val (.ref a0), .val (.int ((0 : Int32) + (1 : Int32))), .val (.ref a2), .val (.int ((0 : Int32) + (1 : Int32))), .val (.int (2 : Int32)), .val (.int ((0 : Int32) + (1 : Int32))), .val (.int c0)] [(.int (2 : Int32)), (.int ((0 : Int32) + (1 : Int32)))])) _
    refine XS.icmpNo X9.here hx rfl (hb hby d5_7) rfl (tlt (by decide : ((0 : Int32) + (1 : Int32)) < (2 : Int32))).2.1 ?_
    show Steps p.tables e below (T9.setTop (mkF m 10 #[.val (.ref a0), .val (.int ((0 : Int32) + (1 : Int32))), .val (.ref a2), .val (.int ((0 : Int32) + (1 : Int32))), .val (.int (2 : Int32)), .val (.int ((0 : Int32) + (1 : Int32))), .val (.int c0)] [])) _
    exact kt
  have pre12 : ∀ t, Steps p.tables e below (T9.setTop (mkF m 12 #[.val (.ref a0), .val (.int ((0 : Int32) + (1 : Int32))), .val (.ref a2), .val (.int ((0 : Int32) + (1 : Int32))), .val (.int (2 : Int32)), .val (.int ((0 : Int32) + (1 : Int32))), .val (.int c0)] [(.int ((0 : Int32) + (1 : Int32))), (.ref a0)])) t → Steps p.tables e below (s₁.setTop (entryFrame m #[(.ref a0), (.int (0 : Int32)), (.ref a2), (.int (0 : Int32)), (.int (2 : Int32))] 7)) t := fun t kt => by
    refine pre11 _ ?_
    show Steps p.tables e below (T9.setTop (mkF m 10 #[.val (.ref a0), .val (.int ((0 : Int32) + (1 : Int32))), .val (.ref a2), .val (.int ((0 : Int32) + (1 : Int32))), .val (.int (2 : Int32)), .val (.int ((0 : Int32) + (1 : Int32))), .val (.int c0)] [])) _
    refine XS.aloadN X9.here hx rfl (hb hby d5_10) rfl rfl ?_
    show Steps p.tables e below (T9.setTop (mkF m 11 #[.val (.ref a0), .val (.int ((0 : Int32) + (1 : Int32))), .val (.ref a2), .val (.int ((0 : Int32) + (1 : Int32))), .val (.int (2 : Int32)), .val (.int ((0 : Int32) + (1 : Int32))), .val (.int c0)] [(.ref a0)])) _
    refine XS.iloadN X9.here hx rfl (hb hby d5_11) rfl ?_
    show Steps p.tables e below (T9.setTop (mkF m 12 #[.val (.ref a0), .val (.int ((0 : Int32) + (1 : Int32))), .val (.ref a2), .val (.int ((0 : Int32) + (1 : Int32))), .val (.int (2 : Int32)), .val (.int ((0 : Int32) + (1 : Int32))), .val (.int c0)] [(.int ((0 : Int32) + (1 : Int32))), (.ref a0)])) _
    exact kt
  have Vo_a0_13 := F9_0
  obtain ⟨cl_a0_13, Ar_a0_13, q_a0_13, S_a0_13, M_a0_13, H_a0_13, G_a0_13⟩ := Vo_a0_13
  have hin13 : ¬ (((0 : Int32) + (1 : Int32)) < 0 ∨ cl_a0_13.slots.size ≤ (((0 : Int32) + (1 : Int32))).toNatClampNeg) := inb_of S_a0_13 ⟨by decide, by decide⟩
  have hat13 : cl_a0_13.slots[(((0 : Int32) + (1 : Int32))).toNatClampNeg]? = some (.int c1) := H_a0_13.at hin13 rfl
  have pre14 : ∀ t, Steps p.tables e below (T9.setTop (mkF m 13 #[.val (.ref a0), .val (.int ((0 : Int32) + (1 : Int32))), .val (.ref a2), .val (.int ((0 : Int32) + (1 : Int32))), .val (.int (2 : Int32)), .val (.int ((0 : Int32) + (1 : Int32))), .val (.int c0)] [(.int c1)])) t → Steps p.tables e below (s₁.setTop (entryFrame m #[(.ref a0), (.int (0 : Int32)), (.ref a2), (.int (0 : Int32)), (.int (2 : Int32))] 7)) t := fun t kt => pre12 _ (X9.caload hx (j := ((0 : Int32) + (1 : Int32))) (v := (.int c1)) (by rw [e9]; exact Ar_a0_13.1) (State.isArrayOf_alike hZ.alike Ar_a0_13.2.1) Ar_a0_13.2.2 hin13 hat13 (g := (mkF m 12 #[.val (.ref a0), .val (.int ((0 : Int32) + (1 : Int32))), .val (.ref a2), .val (.int ((0 : Int32) + (1 : Int32))), .val (.int (2 : Int32)), .val (.int ((0 : Int32) + (1 : Int32))), .val (.int c0)] [(.int ((0 : Int32) + (1 : Int32))), (.ref a0)])) rfl rfl (hb hby d5_12) t kt)
  have pre15 : ∀ t, Steps p.tables e below (T9.setTop (mkF m 20 #[.val (.ref a0), .val (.int ((0 : Int32) + (1 : Int32))), .val (.ref a2), .val (.int ((0 : Int32) + (1 : Int32))), .val (.int (2 : Int32)), .val (.int ((0 : Int32) + (1 : Int32))), .val (.int c1)] [(.int (255 : Int32)), (.int c1)])) t → Steps p.tables e below (s₁.setTop (entryFrame m #[(.ref a0), (.int (0 : Int32)), (.ref a2), (.int (0 : Int32)), (.int (2 : Int32))] 7)) t := fun t kt => by
    refine pre14 _ ?_
    show Steps p.tables e below (T9.setTop (mkF m 13 #[.val (.ref a0), .val (.int ((0 : Int32) + (1 : Int32))), .val (.ref a2), .val (.int ((0 : Int32) + (1 : Int32))), .val (.int (2 : Int32)), .val (.int ((0 : Int32) + (1 : Int32))), .val (.int c0)] [(.int c1)])) _
    refine XS.istore X9.here hx rfl (hb hby d5_13) rfl (l' := #[.val (.ref a0), .val (.int ((0 : Int32) + (1 : Int32))), .val (.ref a2), .val (.int ((0 : Int32) + (1 : Int32))), .val (.int (2 : Int32)), .val (.int ((0 : Int32) + (1 : Int32))), .val (.int c1)]) rfl ?_
    show Steps p.tables e below (T9.setTop (mkF m 15 #[.val (.ref a0), .val (.int ((0 : Int32) + (1 : Int32))), .val (.ref a2), .val (.int ((0 : Int32) + (1 : Int32))), .val (.int (2 : Int32)), .val (.int ((0 : Int32) + (1 : Int32))), .val (.int c1)] [])) _
    refine XS.iload X9.here hx rfl (hb hby d5_15) rfl ?_
    show Steps p.tables e below (T9.setTop (mkF m 17 #[.val (.ref a0), .val (.int ((0 : Int32) + (1 : Int32))), .val (.ref a2), .val (.int ((0 : Int32) + (1 : Int32))), .val (.int (2 : Int32)), .val (.int ((0 : Int32) + (1 : Int32))), .val (.int c1)] [(.int c1)])) _
    refine XS.sipush X9.here hx rfl (hb hby d5_17) ?_
    show Steps p.tables e below (T9.setTop (mkF m 20 #[.val (.ref a0), .val (.int ((0 : Int32) + (1 : Int32))), .val (.ref a2), .val (.int ((0 : Int32) + (1 : Int32))), .val (.int (2 : Int32)), .val (.int ((0 : Int32) + (1 : Int32))), .val (.int c1)] [(.int (255 : Int32)), (.int c1)])) _
    exact kt
  have pre16 : ∀ t, Steps p.tables e below (T9.setTop (mkF m 26 #[.val (.ref a0), .val (.int ((0 : Int32) + (1 : Int32))), .val (.ref a2), .val (.int ((0 : Int32) + (1 : Int32))), .val (.int (2 : Int32)), .val (.int ((0 : Int32) + (1 : Int32))), .val (.int c1)] [])) t → Steps p.tables e below (s₁.setTop (entryFrame m #[(.ref a0), (.int (0 : Int32)), (.ref a2), (.int (0 : Int32)), (.int (2 : Int32))] 7)) t := fun t kt => by
    refine pre15 _ ?_
    show Steps p.tables e below (T9.setTop (mkF m 20 #[.val (.ref a0), .val (.int ((0 : Int32) + (1 : Int32))), .val (.ref a2), .val (.int ((0 : Int32) + (1 : Int32))), .val (.int (2 : Int32)), .val (.int ((0 : Int32) + (1 : Int32))), .val (.int c1)] [(.int (255 : Int32)), (.int c1)])) _
    refine XS.icmpYes X9.here hx rfl (pc0 := 20) (pc' := 26) rfl (hb hby d5_20) rfl (flt hc1).2.2.2 (by decide) (by decide) ?_
    show Steps p.tables e below (T9.setTop (mkF m 26 #[.val (.ref a0), .val (.int ((0 : Int32) + (1 : Int32))), .val (.ref a2), .val (.int ((0 : Int32) + (1 : Int32))), .val (.int (2 : Int32)), .val (.int ((0 : Int32) + (1 : Int32))), .val (.int c1)] [])) _
    exact kt
  have pre17 : ∀ t, Steps p.tables e below (T9.setTop (mkF m 31 #[.val (.ref a0), .val (.int ((0 : Int32) + (1 : Int32))), .val (.ref a2), .val (.int ((0 : Int32) + (1 : Int32))), .val (.int (2 : Int32)), .val (.int ((0 : Int32) + (1 : Int32))), .val (.int c1)] [(.int (c1.toInt8.toInt32)), (.int ((0 : Int32) + (1 : Int32))), (.ref a2)])) t → Steps p.tables e below (s₁.setTop (entryFrame m #[(.ref a0), (.int (0 : Int32)), (.ref a2), (.int (0 : Int32)), (.int (2 : Int32))] 7)) t := fun t kt => by
    refine pre16 _ ?_
    show Steps p.tables e below (T9.setTop (mkF m 26 #[.val (.ref a0), .val (.int ((0 : Int32) + (1 : Int32))), .val (.ref a2), .val (.int ((0 : Int32) + (1 : Int32))), .val (.int (2 : Int32)), .val (.int ((0 : Int32) + (1 : Int32))), .val (.int c1)] [])) _
    refine XS.aloadN X9.here hx rfl (hb hby d5_26) rfl rfl ?_
    show Steps p.tables e below (T9.setTop (mkF m 27 #[.val (.ref a0), .val (.int ((0 : Int32) + (1 : Int32))), .val (.ref a2), .val (.int ((0 : Int32) + (1 : Int32))), .val (.int (2 : Int32)), .val (.int ((0 : Int32) + (1 : Int32))), .val (.int c1)] [(.ref a2)])) _
    refine XS.iloadN X9.here hx rfl (hb hby d5_27) rfl ?_
    show Steps p.tables e below (T9.setTop (mkF m 28 #[.val (.ref a0), .val (.int ((0 : Int32) + (1 : Int32))), .val (.ref a2), .val (.int ((0 : Int32) + (1 : Int32))), .val (.int (2 : Int32)), .val (.int ((0 : Int32) + (1 : Int32))), .val (.int c1)] [(.int ((0 : Int32) + (1 : Int32))), (.ref a2)])) _
    refine XS.iload X9.here hx rfl (hb hby d5_28) rfl ?_
    show Steps p.tables e below (T9.setTop (mkF m 30 #[.val (.ref a0), .val (.int ((0 : Int32) + (1 : Int32))), .val (.ref a2), .val (.int ((0 : Int32) + (1 : Int32))), .val (.int (2 : Int32)), .val (.int ((0 : Int32) + (1 : Int32))), .val (.int c1)] [(.int c1), (.int ((0 : Int32) + (1 : Int32))), (.ref a2)])) _
    refine XS.i2b X9.here hx rfl (hb hby d5_30) rfl ?_
    show Steps p.tables e below (T9.setTop (mkF m 31 #[.val (.ref a0), .val (.int ((0 : Int32) + (1 : Int32))), .val (.ref a2), .val (.int ((0 : Int32) + (1 : Int32))), .val (.int (2 : Int32)), .val (.int ((0 : Int32) + (1 : Int32))), .val (.int c1)] [(.int (c1.toInt8.toInt32)), (.int ((0 : Int32) + (1 : Int32))), (.ref a2)])) _
    exact kt
  have Vo_a2_18 := F9_1
  obtain ⟨cl_a2_18, Ar_a2_18, q_a2_18, S_a2_18, M_a2_18, H_a2_18, G_a2_18⟩ := Vo_a2_18
  have hin18 : ¬ (((0 : Int32) + (1 : Int32)) < 0 ∨ cl_a2_18.slots.size ≤ (((0 : Int32) + (1 : Int32))).toNatClampNeg) := inb_of S_a2_18 ⟨by decide, by decide⟩
  obtain ⟨T18, h18, X18, e18, W18, st18⟩ := stB X9 hx hZ e9 Ar_a2_18 (j := ((0 : Int32) + (1 : Int32))) hin18 (g := (mkF m 31 #[.val (.ref a0), .val (.int ((0 : Int32) + (1 : Int32))), .val (.ref a2), .val (.int ((0 : Int32) + (1 : Int32))), .val (.int (2 : Int32)), .val (.int ((0 : Int32) + (1 : Int32))), .val (.int c1)] [(.int (c1.toInt8.toInt32)), (.int ((0 : Int32) + (1 : Int32))), (.ref a2)])) rfl rfl (hb hby d5_31)
  have V18_a2 : Arv Z h18 a2 kb .byte (2 : Int32) [(.int (nar .byte (c0.toInt8.toInt32))), (.int (nar .byte (c1.toInt8.toInt32)))] (.int (0 : Int32)) := Arv.set Ar_a2_18 q_a2_18 S_a2_18 M_a2_18 H_a2_18 G_a2_18 (fits_nar_byte _) W18 1 rfl (Nat.le_of_ble_eq_true rfl)
  have F18_0 := F9_0.other W18 hne
  have F18_1 := V18_a2
  have Zs18 : n0 ≤ h18.size := Nat.le_trans Zs9 (Keep.of_wr W18).1
  have K18 := K9.wr W18 (Or.inl (List.mem_of_getElem? (i := 0) rfl))
  have N18 := Fr.snoc X18 N9 g_a2
  have pre18 : ∀ t, Steps p.tables e below (T18.setTop (mkF m 32 #[.val (.ref a0), .val (.int ((0 : Int32) + (1 : Int32))), .val (.ref a2), .val (.int ((0 : Int32) + (1 : Int32))), .val (.int (2 : Int32)), .val (.int ((0 : Int32) + (1 : Int32))), .val (.int c1)] [])) t → Steps p.tables e below (s₁.setTop (entryFrame m #[(.ref a0), (.int (0 : Int32)), (.ref a2), (.int (0 : Int32)), (.int (2 : Int32))] 7)) t := fun t kt => pre17 _ (st18 t kt)
  have pre19 : ∀ t, Steps p.tables e below (T18.setTop (mkF m 7 #[.val (.ref a0), .val (.int (((0 : Int32) + (1 : Int32)) + (1 : Int32))), .val (.ref a2), .val (.int (((0 : Int32) + (1 : Int32)) + (1 : Int32))), .val (.int (2 : Int32)), .val (.int (((0 : Int32) + (1 : Int32)) + (1 : Int32))), .val (.int c1)] [(.int (2 : Int32)), (.int (((0 : Int32) + (1 : Int32)) + (1 : Int32)))])) t → Steps p.tables e below (s₁.setTop (entryFrame m #[(.ref a0), (.int (0 : Int32)), (.ref a2), (.int (0 : Int32)), (.int (2 : Int32))] 7)) t := fun t kt => by
    refine pre18 _ ?_
    show Steps p.tables e below (T18.setTop (mkF m 32 #[.val (.ref a0), .val (.int ((0 : Int32) + (1 : Int32))), .val (.ref a2), .val (.int ((0 : Int32) + (1 : Int32))), .val (.int (2 : Int32)), .val (.int ((0 : Int32) + (1 : Int32))), .val (.int c1)] [])) _
    refine XS.iinc X18.here hx rfl (hb hby d5_32) rfl (l' := #[.val (.ref a0), .val (.int (((0 : Int32) + (1 : Int32)) + (1 : Int32))), .val (.ref a2), .val (.int ((0 : Int32) + (1 : Int32))), .val (.int (2 : Int32)), .val (.int ((0 : Int32) + (1 : Int32))), .val (.int c1)]) rfl ?_
    show Steps p.tables e below (T18.setTop (mkF m 35 #[.val (.ref a0), .val (.int (((0 : Int32) + (1 : Int32)) + (1 : Int32))), .val (.ref a2), .val (.int ((0 : Int32) + (1 : Int32))), .val (.int (2 : Int32)), .val (.int ((0 : Int32) + (1 : Int32))), .val (.int c1)] [])) _
    refine XS.iinc X18.here hx rfl (hb hby d5_35) rfl (l' := #[.val (.ref a0), .val (.int (((0 : Int32) + (1 : Int32)) + (1 : Int32))), .val (.ref a2), .val (.int (((0 : Int32) + (1 : Int32)) + (1 : Int32))), .val (.int (2 : Int32)), .val (.int ((0 : Int32) + (1 : Int32))), .val (.int c1)]) rfl ?_
    show Steps p.tables e below (T18.setTop (mkF m 38 #[.val (.ref a0), .val (.int (((0 : Int32) + (1 : Int32)) + (1 : Int32))), .val (.ref a2), .val (.int (((0 : Int32) + (1 : Int32)) + (1 : Int32))), .val (.int (2 : Int32)), .val (.int ((0 : Int32) + (1 : Int32))), .val (.int c1)] [])) _
    refine XS.iinc X18.here hx rfl (hb hby d5_38) rfl (l' := #[.val (.ref a0), .val (.int (((0 : Int32) + (1 : Int32)) + (1 : Int32))), .val (.ref a2), .val (.int (((0 : Int32) + (1 : Int32)) + (1 : Int32))), .val (.int (2 : Int32)), .val (.int (((0 : Int32) + (1 : Int32)) + (1 : Int32))), .val (.int c1)]) rfl ?_
    show Steps p.tables e below (T18.setTop (mkF m 41 #[.val (.ref a0), .val (.int (((0 : Int32) + (1 : Int32)) + (1 : Int32))), .val (.ref a2), .val (.int (((0 : Int32) + (1 : Int32)) + (1 : Int32))), .val (.int (2 : Int32)), .val (.int (((0 : Int32) + (1 : Int32)) + (1 : Int32))), .val (.int c1)] [])) _
    refine XS.goto X18.here hx rfl (pc0 := 41) (pc' := 3) rfl (hb hby d5_41) (by decide) (by decide) ?_
    show Steps p.tables e below (T18.setTop (mkF m 3 #[.val (.ref a0), .val (.int (((0 : Int32) + (1 : Int32)) + (1 : Int32))), .val (.ref a2), .val (.int (((0 : Int32) + (1 : Int32)) + (1 : Int32))), .val (.int (2 : Int32)), .val (.int (((0 : Int32) + (1 : Int32)) + (1 : Int32))), .val (.int c1)] [])) _
    refine XS.iload X18.here hx rfl (hb hby d5_3) rfl ?_
    show Steps p.tables e below (T18.setTop (mkF m 5 #[.val (.ref a0), .val (.int (((0 : Int32) + (1 : Int32)) + (1 : Int32))), .val (.ref a2), .val (.int (((0 : Int32) + (1 : Int32)) + (1 : Int32))), .val (.int (2 : Int32)), .val (.int (((0 : Int32) + (1 : Int32)) + (1 : Int32))), .val (.int c1)] [(.int (((0 : Int32) + (1 : Int32)) + (1 : Int32)))])) _
    refine XS.iload X18.here hx rfl (hb hby d5_5) rfl ?_
    show Steps p.tables e below (T18.setTop (mkF m 7 #[.val (.ref a0), .val (.int (((0 : Int32) + (1 : Int32)) + (1 : Int32))), .val (.ref a2), .val (.int (((0 : Int32) + (1 : Int32)) + (1 : Int32))), .val (.int (2 : Int32)), .val (.int (((0 : Int32) + (1 : Int32)) + (1 : Int32))), .val (.int c1)] [(.int (2 : Int32)), (.int (((0 : Int32) + (1 : Int32)) + (1 : Int32)))])) _
    exact kt
  have pre20 : ∀ t, Steps p.tables e below (T18.setTop (mkF m 44 #[.val (.ref a0), .val (.int (((0 : Int32) + (1 : Int32)) + (1 : Int32))), .val (.ref a2), .val (.int (((0 : Int32) + (1 : Int32)) + (1 : Int32))), .val (.int (2 : Int32)), .val (.int (((0 : Int32) + (1 : Int32)) + (1 : Int32))), .val (.int c1)] [])) t → Steps p.tables e below (s₁.setTop (entryFrame m #[(.ref a0), (.int (0 : Int32)), (.ref a2), (.int (0 : Int32)), (.int (2 : Int32))] 7)) t := fun t kt => by
    refine pre19 _ ?_
    show Steps p.tables e below (T18.setTop (mkF m 7 #[.val (.ref a0), .val (.int (((0 : Int32) + (1 : Int32)) + (1 : Int32))), .val (.ref a2), .val (.int (((0 : Int32) + (1 : Int32)) + (1 : Int32))), .val (.int (2 : Int32)), .val (.int (((0 : Int32) + (1 : Int32)) + (1 : Int32))), .val (.int c1)] [(.int (2 : Int32)), (.int (((0 : Int32) + (1 : Int32)) + (1 : Int32)))])) _
    refine XS.icmpYes X18.here hx rfl (pc0 := 7) (pc' := 44) rfl (hb hby d5_7) rfl (flt (by decide : ¬ ((((0 : Int32) + (1 : Int32)) + (1 : Int32)) < (2 : Int32)))).2.1 (by decide) (by decide) ?_
    show Steps p.tables e below (T18.setTop (mkF m 44 #[.val (.ref a0), .val (.int (((0 : Int32) + (1 : Int32)) + (1 : Int32))), .val (.ref a2), .val (.int (((0 : Int32) + (1 : Int32)) + (1 : Int32))), .val (.int (2 : Int32)), .val (.int (((0 : Int32) + (1 : Int32)) + (1 : Int32))), .val (.int c1)] [])) _
    exact kt
  have pre21 : ∀ t, Steps p.tables e below (T18.setTop (mkF m 46 #[.val (.ref a0), .val (.int (((0 : Int32) + (1 : Int32)) + (1 : Int32))), .val (.ref a2), .val (.int (((0 : Int32) + (1 : Int32)) + (1 : Int32))), .val (.int (2 : Int32)), .val (.int (((0 : Int32) + (1 : Int32)) + (1 : Int32))), .val (.int c1)] [(.int (2 : Int32))])) t → Steps p.tables e below (s₁.setTop (entryFrame m #[(.ref a0), (.int (0 : Int32)), (.ref a2), (.int (0 : Int32)), (.int (2 : Int32))] 7)) t := fun t kt => by
    refine pre20 _ ?_
    show Steps p.tables e below (T18.setTop (mkF m 44 #[.val (.ref a0), .val (.int (((0 : Int32) + (1 : Int32)) + (1 : Int32))), .val (.ref a2), .val (.int (((0 : Int32) + (1 : Int32)) + (1 : Int32))), .val (.int (2 : Int32)), .val (.int (((0 : Int32) + (1 : Int32)) + (1 : Int32))), .val (.int c1)] [])) _
    refine XS.iload X18.here hx rfl (hb hby d5_44) rfl ?_
    show Steps p.tables e below (T18.setTop (mkF m 46 #[.val (.ref a0), .val (.int (((0 : Int32) + (1 : Int32)) + (1 : Int32))), .val (.ref a2), .val (.int (((0 : Int32) + (1 : Int32)) + (1 : Int32))), .val (.int (2 : Int32)), .val (.int (((0 : Int32) + (1 : Int32)) + (1 : Int32))), .val (.int c1)] [(.int (2 : Int32))])) _
    exact kt
  obtain ⟨fs, hr, hrun, hended, hW, hsame⟩ := X18.leave (v := some (.int (2 : Int32))) (fun h => by rw [Bd.returns] at h; cases h)
  refine ⟨_, _, pre21 _ ?_, hrun, hended, _, _, rfl, ?_, ⟨_, rfl⟩, hW, hsame.mono (by decide) (by decide)⟩
  · show Steps p.tables e below (T18.setTop (mkF m 46 #[.val (.ref a0), .val (.int (((0 : Int32) + (1 : Int32)) + (1 : Int32))), .val (.ref a2), .val (.int (((0 : Int32) + (1 : Int32)) + (1 : Int32))), .val (.int (2 : Int32)), .val (.int (((0 : Int32) + (1 : Int32)) + (1 : Int32))), .val (.int c1)] [(.int (2 : Int32))])) _
    exact retI X18 hx Bd.returns (hb hby d5_46) hr
  · show Q5 Z a0 a2 kc kb c0 c1 h0 n0 _ T18.heap _
    rw [e18]
    exact ⟨rfl, N18, K18, F18_1⟩
theorem d4_0 : decode jdk_52_method_16_code 0 = .ok (.iload_n 2, 1) := by decide +kernel
theorem d4_1 : decode jdk_52_method_16_code 1 = .ok (.newarray .byte, 2) := by decide +kernel
theorem d4_3 : decode jdk_52_method_16_code 3 = .ok (.astore_n 3, 1) := by decide +kernel
theorem d4_4 : decode jdk_52_method_16_code 4 = .ok (.aload_n 0, 1) := by decide +kernel
theorem d4_5 : decode jdk_52_method_16_code 5 = .ok (.iload_n 1, 1) := by decide +kernel
theorem d4_6 : decode jdk_52_method_16_code 6 = .ok (.aload_n 3, 1) := by decide +kernel
theorem d4_7 : decode jdk_52_method_16_code 7 = .ok (.iconst 0, 1) := by decide +kernel
theorem d4_8 : decode jdk_52_method_16_code 8 = .ok (.iload_n 2, 1) := by decide +kernel
theorem d4_9 : decode jdk_52_method_16_code 9 = .ok (.invokestatic 115, 3) := by decide +kernel
theorem d4_12 : decode jdk_52_method_16_code 12 = .ok (.istore 4, 2) := by decide +kernel
theorem d4_14 : decode jdk_52_method_16_code 14 = .ok (.iload 4, 2) := by decide +kernel
theorem d4_16 : decode jdk_52_method_16_code 16 = .ok (.iload_n 2, 1) := by decide +kernel
theorem d4_17 : decode jdk_52_method_16_code 17 = .ok (.if_icmp .eq 40, 3) := by decide +kernel
theorem d4_20 : decode jdk_52_method_16_code 20 = .ok (.aload_n 0, 1) := by decide +kernel
theorem d4_21 : decode jdk_52_method_16_code 21 = .ok (.iload_n 1, 1) := by decide +kernel
theorem d4_22 : decode jdk_52_method_16_code 22 = .ok (.iload_n 2, 1) := by decide +kernel
theorem d4_23 : decode jdk_52_method_16_code 23 = .ok (.invokestatic 119, 3) := by decide +kernel
theorem d4_26 : decode jdk_52_method_16_code 26 = .ok (.astore 5, 2) := by decide +kernel
theorem d4_28 : decode jdk_52_method_16_code 28 = .ok (.aload 5, 2) := by decide +kernel
theorem d4_30 : decode jdk_52_method_16_code 30 = .ok (.iload 4, 2) := by decide +kernel
theorem d4_32 : decode jdk_52_method_16_code 32 = .ok (.invokestatic 71, 3) := by decide +kernel
theorem d4_35 : decode jdk_52_method_16_code 35 = .ok (.sipush 255, 3) := by decide +kernel
theorem d4_38 : decode jdk_52_method_16_code 38 = .ok (.if_icmp .gt 16, 3) := by decide +kernel
theorem d4_41 : decode jdk_52_method_16_code 41 = .ok (.aload 5, 2) := by decide +kernel
theorem d4_43 : decode jdk_52_method_16_code 43 = .ok (.iconst 0, 1) := by decide +kernel
theorem d4_44 : decode jdk_52_method_16_code 44 = .ok (.aload_n 3, 1) := by decide +kernel
theorem d4_45 : decode jdk_52_method_16_code 45 = .ok (.iconst 0, 1) := by decide +kernel
theorem d4_46 : decode jdk_52_method_16_code 46 = .ok (.iload_n 2, 1) := by decide +kernel
theorem d4_47 : decode jdk_52_method_16_code 47 = .ok (.invokestatic 123, 3) := by decide +kernel
theorem d4_50 : decode jdk_52_method_16_code 50 = .ok (.iload_n 2, 1) := by decide +kernel
theorem d4_51 : decode jdk_52_method_16_code 51 = .ok (.if_icmp .eq 6, 3) := by decide +kernel
theorem d4_54 : decode jdk_52_method_16_code 54 = .ok (.aload 5, 2) := by decide +kernel
theorem d4_56 : decode jdk_52_method_16_code 56 = .ok (.areturn, 1) := by decide +kernel
theorem d4_57 : decode jdk_52_method_16_code 57 = .ok (.aload_n 3, 1) := by decide +kernel
theorem d4_58 : decode jdk_52_method_16_code 58 = .ok (.areturn, 1) := by decide +kernel
theorem ef_4 (m : MethodId) (x0 : Addr) (x1 : Int32) (x2 : Int32) : entryFrame m #[(.ref x0), (.int x1), (.int x2)] 6 = mkF m 0 #[.val (.ref x0), .val (.int x1), .val (.int x2), .unset, .unset, .unset] [] := by first | (simp [entryFrame, mkF, argsToLocals, Value.category]; done) | rfl
def Q4 (Z : State) (a0 : Addr) (kc : ClassId) (c0 c1 : Int32) (h0 : Heap) (n0 : Nat) (v : Option Value) (h : Heap) (L : List Loc) : Prop := ∃ (rb : Addr) (kb : ClassId), v = some (.ref rb) ∧ Fr n0 L ∧ Keep h0 h [] ∧ h0.size ≤ rb ∧ Arv Z h rb kb .byte (2 : Int32) [(.int (nar .byte (c0.toInt8.toInt32))), (.int (nar .byte (c1.toInt8.toInt32)))] (.int (0 : Int32))
set_option maxRecDepth 65536 in
set_option maxHeartbeats 40000000 in
theorem rm4 (l : Launch) (Z : State) (aZ : Array Value) (hw : ∀ d ∈ tables_1, d.before aZ Z = true) (ws : List Jvm.Cond) (a0 : Addr) (kc : ClassId) (c0 c1 : Int32) (h0 : Heap) (n0 : Nat) (Z0 : n0 ≤ h0.size) (V_c : Arv Z h0 a0 kc .char (2 : Int32) [(.int c0), (.int c1)] (.int (0 : Int32))) (hc0 : ¬ (255 : Int32) < c0) (hc1 : ¬ (255 : Int32) < c1) :
    MetFree l (⟨"java/lang/StringUTF16", "compress", "([CII)[B"⟩ : MethodName) (head1 (Jvm.Cond.code (⟨"java/lang/StringUTF16", "compress", "([CII)[B"⟩ : MethodName) jdk_52_method_16_code 6 (some (.array .byte)) :: ws) ({ frames := 1, cells := 1, slots := 2, locals := 18 } : Room)) (fun a U => a = #[(.ref a0), (.int (0 : Int32)), (.int (2 : Int32))] ∧ Z.Warmed39 U.vm ∧ U.heap = h0) (fun _ _ _ _ _ => True) (fun _ U oc U' => ∃ v L, oc = .returned v ∧ Q4 Z a0 kc c0 c1 h0 n0 v U'.heap L ∧ FrameEnd U oc U' L ({ frames := 1, cells := 1, slots := 2, locals := 18 } : Room).cells ({ frames := 1, cells := 1, slots := 2, locals := 18 } : Room).slots) := by
  refine MetFree.of_bodySF (plainFor_of_name pn_5) hisR ?_
  intro p e s m args below meth c s₁ Bd hml0 hP hK
  obtain ⟨rfl, hZ, hh⟩ := hP
  have hx := Bd.exec
  have hby := Bd.bytes
  have hml : c.maxLocals = 6 := hml0
  have hown : s.vm.findClass "java/lang/StringUTF16" = some m.cls := findClass_of_methodNamed Bd.named
  have hnm := (name_of_methodNamed Bd.named Bd.method).1
  have X0 : Stand p l e ({ frames := 1, cells := 1, slots := 2, locals := 18 } : Room) s m #[(.ref a0), (.int (0 : Int32)), (.int (2 : Int32))] below meth c s₁ [] 0 0 := Stand.of_body Bd
  have e0 : s₁.heap = h0 := by rw [← hh, Bd.state]; rfl
  have N0 := Fr.nil n0
  have pre0 : ∀ t, Steps p.tables e below (s₁.setTop (mkF m 0 #[.val (.ref a0), .val (.int (0 : Int32)), .val (.int (2 : Int32)), .unset, .unset, .unset] [])) t → Steps p.tables e below (s₁.setTop (entryFrame m #[(.ref a0), (.int (0 : Int32)), (.int (2 : Int32))] 6)) t := fun t kt => castTop (ef_4 m a0 (0 : Int32) (2 : Int32)) kt
  have pre22 : ∀ t, Steps p.tables e below (s₁.setTop (mkF m 1 #[.val (.ref a0), .val (.int (0 : Int32)), .val (.int (2 : Int32)), .unset, .unset, .unset] [(.int (2 : Int32))])) t → Steps p.tables e below (s₁.setTop (entryFrame m #[(.ref a0), (.int (0 : Int32)), (.int (2 : Int32))] 6)) t := fun t kt => by
    refine pre0 _ ?_
    show Steps p.tables e below (s₁.setTop (mkF m 0 #[.val (.ref a0), .val (.int (0 : Int32)), .val (.int (2 : Int32)), .unset, .unset, .unset] [])) _
    refine XS.iloadN X0.here hx rfl (hb hby d4_0) rfl ?_
    show Steps p.tables e below (s₁.setTop (mkF m 1 #[.val (.ref a0), .val (.int (0 : Int32)), .val (.int (2 : Int32)), .unset, .unset, .unset] [(.int (2 : Int32))])) _
    exact kt
  obtain ⟨T23, h23, k23, X23, e23, E23, A23, st23⟩ := newP X0 hx hZ (hw _ (List.mem_of_getElem? (i := 22) rfl)) e0 (g := (mkF m 1 #[.val (.ref a0), .val (.int (0 : Int32)), .val (.int (2 : Int32)), .unset, .unset, .unset] [(.int (2 : Int32))])) rfl (hb hby d4_1) rfl (by decide) (cap := 2) (by decide) (by decide) (by decide) (by decide)
  obtain ⟨b23, g23⟩ : ∃ z, z = h0.size := ⟨_, rfl⟩
  have ne_a0_b23 : a0 ≠ b23 := Nat.ne_of_lt (Nat.lt_of_lt_of_le V_c.lt (Nat.le_of_eq g23.symm))
  have g_b23 : n0 ≤ b23 := Nat.le_trans Z0 (Nat.le_of_eq g23.symm)
  have sz_b23 : h0.size ≤ b23 := Nat.le_of_eq g23.symm
  rw [← g23] at A23 st23
  have F23_0 := V_c.ext E23
  have Zs23 : n0 ≤ h23.size := Nat.le_trans Z0 E23.1
  have K0 := Keep.refl h0 []
  have K23 := K0.ext E23
  have V_b23 : Arv Z h23 b23 k23 .byte (2 : Int32) [(.int (0 : Int32)), (.int (0 : Int32))] (.int (0 : Int32)) := (Arv.new A23 (by decide)).pad (pad_rep [] (.int (0 : Int32)) 2)
  have pre23 : ∀ t, Steps p.tables e below (T23.setTop (mkF m 3 #[.val (.ref a0), .val (.int (0 : Int32)), .val (.int (2 : Int32)), .unset, .unset, .unset] [(.ref b23)])) t → Steps p.tables e below (s₁.setTop (entryFrame m #[(.ref a0), (.int (0 : Int32)), (.int (2 : Int32))] 6)) t := fun t kt => pre22 _ (st23 t kt)
  have pre24 : ∀ t, Steps p.tables e below (T23.setTop (mkF m 9 #[.val (.ref a0), .val (.int (0 : Int32)), .val (.int (2 : Int32)), .val (.ref b23), .unset, .unset] [(.int (2 : Int32)), (.int (0 : Int32)), (.ref b23), (.int (0 : Int32)), (.ref a0)])) t → Steps p.tables e below (s₁.setTop (entryFrame m #[(.ref a0), (.int (0 : Int32)), (.int (2 : Int32))] 6)) t := fun t kt => by
    refine pre23 _ ?_
    show Steps p.tables e below (T23.setTop (mkF m 3 #[.val (.ref a0), .val (.int (0 : Int32)), .val (.int (2 : Int32)), .unset, .unset, .unset] [(.ref b23)])) _
    refine XS.astoreN X23.here hx rfl (hb hby d4_3) rfl rfl (l' := #[.val (.ref a0), .val (.int (0 : Int32)), .val (.int (2 : Int32)), .val (.ref b23), .unset, .unset]) rfl ?_
    show Steps p.tables e below (T23.setTop (mkF m 4 #[.val (.ref a0), .val (.int (0 : Int32)), .val (.int (2 : Int32)), .val (.ref b23), .unset, .unset] [])) _
    refine XS.aloadN X23.here hx rfl (hb hby d4_4) rfl rfl ?_
    show Steps p.tables e below (T23.setTop (mkF m 5 #[.val (.ref a0), .val (.int (0 : Int32)), .val (.int (2 : Int32)), .val (.ref b23), .unset, .unset] [(.ref a0)])) _
    refine XS.iloadN X23.here hx rfl (hb hby d4_5) rfl ?_
    show Steps p.tables e below (T23.setTop (mkF m 6 #[.val (.ref a0), .val (.int (0 : Int32)), .val (.int (2 : Int32)), .val (.ref b23), .unset, .unset] [(.int (0 : Int32)), (.ref a0)])) _
    refine XS.aloadN X23.here hx rfl (hb hby d4_6) rfl rfl ?_
    show Steps p.tables e below (T23.setTop (mkF m 7 #[.val (.ref a0), .val (.int (0 : Int32)), .val (.int (2 : Int32)), .val (.ref b23), .unset, .unset] [(.ref b23), (.int (0 : Int32)), (.ref a0)])) _
    refine XS.iconst X23.here hx rfl (hb hby d4_7) ?_
    show Steps p.tables e below (T23.setTop (mkF m 8 #[.val (.ref a0), .val (.int (0 : Int32)), .val (.int (2 : Int32)), .val (.ref b23), .unset, .unset] [(.int (0 : Int32)), (.ref b23), (.int (0 : Int32)), (.ref a0)])) _
    refine XS.iloadN X23.here hx rfl (hb hby d4_8) rfl ?_
    show Steps p.tables e below (T23.setTop (mkF m 9 #[.val (.ref a0), .val (.int (0 : Int32)), .val (.int (2 : Int32)), .val (.ref b23), .unset, .unset] [(.int (2 : Int32)), (.int (0 : Int32)), (.ref b23), (.int (0 : Int32)), (.ref a0)])) _
    exact kt
  obtain ⟨v25, _, ⟨T25, L25, k25, n25⟩, -, X25, ⟨Lc25, hQ25, l25, y25, z25⟩, st25⟩ := Jvm.LawKit.callS X23 hx (y := (⟨"java/lang/StringUTF16", "compress", "([CI[BII)I"⟩ : MethodName)) hown (mvT hZ (hw _ (List.mem_of_getElem? (i := 23) rfl))) (mvT hZ (hw _ (List.mem_of_getElem? (i := 24) rfl))) (mvT hZ (hw _ (List.mem_of_getElem? (i := 20) rfl))) (mvT hZ (hw _ (List.mem_of_getElem? (i := 25) rfl))) (by decide) (backOf (W := 0) (rm5 l Z aZ hw [] a0 b23 kc k23 c0 c1 h23 n0 Zs23 F23_0 V_b23 ne_a0_b23 g_b23 hc0 hc1) hZ (hw _ (List.mem_of_getElem? (i := 25) rfl)) (hw _ (List.mem_of_getElem? (i := 20) rfl)) (by decide) (by decide)) (g := (mkF m 9 #[.val (.ref a0), .val (.int (0 : Int32)), .val (.int (2 : Int32)), .val (.ref b23), .unset, .unset] [(.int (2 : Int32)), (.int (0 : Int32)), (.ref b23), (.int (0 : Int32)), (.ref a0)])) rfl (by rw [hml]; rfl) (argsL := [(.ref a0), (.int (0 : Int32)), (.ref b23), (.int (0 : Int32)), (.int (2 : Int32))]) (rest := []) (lenOf pd_4 rfl) rfl (by show 2 * 0 + _ ≤ _; exact Nat.le_of_eq rfl) (hb hby d4_9) (fun _ _ => ⟨rfl, e23, (by decide : 1 + 0 ≤ _), (by decide : 2 + 0 ≤ _)⟩)
  dsimp only [Pt.U, Pt.locs, Pt.cells, Pt.slots] at X25 l25 y25 z25 st25 hQ25
  rw [l25, y25, z25] at X25
  clear l25 y25 z25
  obtain ⟨vq25, N25q, Kc25, Vq25⟩ := hQ25
  rw [vq25] at st25
  have N25 := Fr.app N0 N25q
  have pre25 : ∀ t, Steps p.tables e below (T25.setTop (mkF m 12 #[.val (.ref a0), .val (.int (0 : Int32)), .val (.int (2 : Int32)), .val (.ref b23), .unset, .unset] [(.int (2 : Int32))])) t → Steps p.tables e below (s₁.setTop (entryFrame m #[(.ref a0), (.int (0 : Int32)), (.int (2 : Int32))] 6)) t := fun t kt => pre24 _ (st25 t kt)
  have Zs25 : n0 ≤ T25.heap.size := Nat.le_trans Zs23 Kc25.1
  have F25_0 := F23_0.keep Kc25 (by intro q; simp only [List.mem_cons, List.not_mem_nil, or_false] at q; exact ne_a0_b23 q)
  have K25 := K23.trans Kc25 (by intro x hx; simp only [List.mem_cons, List.not_mem_nil, or_false] at hx; rcases hx with rfl <;> first | exact Or.inr sz_b23)
  have pre26 : ∀ t, Steps p.tables e below (T25.setTop (mkF m 17 #[.val (.ref a0), .val (.int (0 : Int32)), .val (.int (2 : Int32)), .val (.ref b23), .val (.int (2 : Int32)), .unset] [(.int (2 : Int32)), (.int (2 : Int32))])) t → Steps p.tables e below (s₁.setTop (entryFrame m #[(.ref a0), (.int (0 : Int32)), (.int (2 : Int32))] 6)) t := fun t kt => by
    refine pre25 _ ?_
    show Steps p.tables e below (T25.setTop (mkF m 12 #[.val (.ref a0), .val (.int (0 : Int32)), .val (.int (2 : Int32)), .val (.ref b23), .unset, .unset] [(.int (2 : Int32))])) _
    refine XS.istore X25.here hx rfl (hb hby d4_12) rfl (l' := #[.val (.ref a0), .val (.int (0 : Int32)), .val (.int (2 : Int32)), .val (.ref b23), .val (.int (2 : Int32)), .unset]) rfl ?_
    show Steps p.tables e below (T25.setTop (mkF m 14 #[.val (.ref a0), .val (.int (0 : Int32)), .val (.int (2 : Int32)), .val (.ref b23), .val (.int (2 : Int32)), .unset] [])) _
    refine XS.iload X25.here hx rfl (hb hby d4_14) rfl ?_
    show Steps p.tables e below (T25.setTop (mkF m 16 #[.val (.ref a0), .val (.int (0 : Int32)), .val (.int (2 : Int32)), .val (.ref b23), .val (.int (2 : Int32)), .unset] [(.int (2 : Int32))])) _
    refine XS.iloadN X25.here hx rfl (hb hby d4_16) rfl ?_
    show Steps p.tables e below (T25.setTop (mkF m 17 #[.val (.ref a0), .val (.int (0 : Int32)), .val (.int (2 : Int32)), .val (.ref b23), .val (.int (2 : Int32)), .unset] [(.int (2 : Int32)), (.int (2 : Int32))])) _
    exact kt
  have pre27 : ∀ t, Steps p.tables e below (T25.setTop (mkF m 57 #[.val (.ref a0), .val (.int (0 : Int32)), .val (.int (2 : Int32)), .val (.ref b23), .val (.int (2 : Int32)), .unset] [])) t → Steps p.tables e below (s₁.setTop (entryFrame m #[(.ref a0), (.int (0 : Int32)), (.int (2 : Int32))] 6)) t := fun t kt => by
    refine pre26 _ ?_
    show Steps p.tables e below (T25.setTop (mkF m 17 #[.val (.ref a0), .val (.int (0 : Int32)), .val (.int (2 : Int32)), .val (.ref b23), .val (.int (2 : Int32)), .unset] [(.int (2 : Int32)), (.int (2 : Int32))])) _
    refine XS.icmpYes X25.here hx rfl (pc0 := 17) (pc' := 57) rfl (hb hby d4_17) rfl (teq (by decide : (2 : Int32) = (2 : Int32))).1 (by decide) (by decide) ?_
    show Steps p.tables e below (T25.setTop (mkF m 57 #[.val (.ref a0), .val (.int (0 : Int32)), .val (.int (2 : Int32)), .val (.ref b23), .val (.int (2 : Int32)), .unset] [])) _
    exact kt
  have pre28 : ∀ t, Steps p.tables e below (T25.setTop (mkF m 58 #[.val (.ref a0), .val (.int (0 : Int32)), .val (.int (2 : Int32)), .val (.ref b23), .val (.int (2 : Int32)), .unset] [(.ref b23)])) t → Steps p.tables e below (s₁.setTop (entryFrame m #[(.ref a0), (.int (0 : Int32)), (.int (2 : Int32))] 6)) t := fun t kt => by
    refine pre27 _ ?_
    show Steps p.tables e below (T25.setTop (mkF m 57 #[.val (.ref a0), .val (.int (0 : Int32)), .val (.int (2 : Int32)), .val (.ref b23), .val (.int (2 : Int32)), .unset] [])) _
    refine XS.aloadN X25.here hx rfl (hb hby d4_57) rfl rfl ?_
    show Steps p.tables e below (T25.setTop (mkF m 58 #[.val (.ref a0), .val (.int (0 : Int32)), .val (.int (2 : Int32)), .val (.ref b23), .val (.int (2 : Int32)), .unset] [(.ref b23)])) _
    exact kt
  obtain ⟨fs, hr, hrun, hended, hW, hsame⟩ := X25.leave (v := some (.ref b23)) (fun h => by rw [Bd.returns] at h; cases h)
  refine ⟨_, _, pre28 _ ?_, hrun, hended, _, _, rfl, ?_, ⟨_, rfl⟩, hW, hsame.mono (by decide) (by decide)⟩
  · show Steps p.tables e below (T25.setTop (mkF m 58 #[.val (.ref a0), .val (.int (0 : Int32)), .val (.int (2 : Int32)), .val (.ref b23), .val (.int (2 : Int32)), .unset] [(.ref b23)])) _
    jvm_step X25.here [X25.here.top, hx, (hb hby d4_58), X25.method', Bd.returns, Value.isRef, FieldType.isReference]
    first | (intro acts; rw [hr _ acts rfl rfl rfl]) | rw [hr _ _ rfl rfl rfl]
    exact Steps.refl _
  · show Q4 Z a0 kc c0 c1 h0 n0 _ T25.heap _
    exact ⟨b23, k23, rfl, N25, K25, sz_b23, Vq25⟩
theorem d6_0 : decode jdk_52_method_15_code 0 = .ok (.iload_n 1, 1) := by decide +kernel
theorem d6_1 : decode jdk_52_method_15_code 1 = .ok (.aload_n 0, 1) := by decide +kernel
theorem d6_2 : decode jdk_52_method_15_code 2 = .ok (.arraylength, 1) := by decide +kernel
theorem d6_3 : decode jdk_52_method_15_code 3 = .ok (.isub, 1) := by decide +kernel
theorem d6_4 : decode jdk_52_method_15_code 4 = .ok (.bipush 31, 2) := by decide +kernel
theorem d6_6 : decode jdk_52_method_15_code 6 = .ok (.iushr, 1) := by decide +kernel
theorem d6_7 : decode jdk_52_method_15_code 7 = .ok (.i2b, 1) := by decide +kernel
theorem d6_8 : decode jdk_52_method_15_code 8 = .ok (.ireturn, 1) := by decide +kernel
theorem ef_6 (m : MethodId) (x0 : Addr) (x1 : Int32) : entryFrame m #[(.ref x0), (.int x1)] 2 = mkF m 0 #[.val (.ref x0), .val (.int x1)] [] := by first | (simp [entryFrame, mkF, argsToLocals, Value.category]; done) | rfl
def Q6 (Z : State) (a0 : Addr) (kb : ClassId) (x0 x1 : Int32) (h0 : Heap) (n0 : Nat) (v : Option Value) (h : Heap) (L : List Loc) : Prop := v = some (.int (0 : Int32)) ∧ Fr n0 L ∧ h = h0
set_option maxRecDepth 65536 in
set_option maxHeartbeats 40000000 in
theorem rm6 (l : Launch) (Z : State) (aZ : Array Value) (hw : ∀ d ∈ tables_1, d.before aZ Z = true) (ws : List Jvm.Cond) (a0 : Addr) (kb : ClassId) (x0 x1 : Int32) (h0 : Heap) (n0 : Nat) (Z0 : n0 ≤ h0.size) (V_b : Arv Z h0 a0 kb .byte (2 : Int32) [(.int x0), (.int x1)] (.int (0 : Int32))) :
    MetFree l (⟨"java/lang/StringUTF16", "coderFromArrayLen", "([BI)B"⟩ : MethodName) (head1 (Jvm.Cond.code (⟨"java/lang/StringUTF16", "coderFromArrayLen", "([BI)B"⟩ : MethodName) jdk_52_method_15_code 2 (some .byte) :: ws) ({ frames := 0, cells := 0, slots := 0, locals := 0 } : Room)) (fun a U => a = #[(.ref a0), (.int (2 : Int32))] ∧ Z.Warmed39 U.vm ∧ U.heap = h0) (fun _ _ _ _ _ => True) (fun _ U oc U' => ∃ v L, oc = .returned v ∧ Q6 Z a0 kb x0 x1 h0 n0 v U'.heap L ∧ FrameEnd U oc U' L ({ frames := 0, cells := 0, slots := 0, locals := 0 } : Room).cells ({ frames := 0, cells := 0, slots := 0, locals := 0 } : Room).slots) := by
  refine MetFree.of_bodySF (plainFor_of_name pn_5) hisR ?_
  intro p e s m args below meth c s₁ Bd hml0 hP hK
  obtain ⟨rfl, hZ, hh⟩ := hP
  have hx := Bd.exec
  have hby := Bd.bytes
  have hml : c.maxLocals = 2 := hml0
  have hown : s.vm.findClass "java/lang/StringUTF16" = some m.cls := findClass_of_methodNamed Bd.named
  have hnm := (name_of_methodNamed Bd.named Bd.method).1
  have X0 : Stand p l e ({ frames := 0, cells := 0, slots := 0, locals := 0 } : Room) s m #[(.ref a0), (.int (2 : Int32))] below meth c s₁ [] 0 0 := Stand.of_body Bd
  have e0 : s₁.heap = h0 := by rw [← hh, Bd.state]; rfl
  have N0 := Fr.nil n0
  have pre0 : ∀ t, Steps p.tables e below (s₁.setTop (mkF m 0 #[.val (.ref a0), .val (.int (2 : Int32))] [])) t → Steps p.tables e below (s₁.setTop (entryFrame m #[(.ref a0), (.int (2 : Int32))] 2)) t := fun t kt => castTop (ef_6 m a0 (2 : Int32)) kt
  have pre29 : ∀ t, Steps p.tables e below (s₁.setTop (mkF m 2 #[.val (.ref a0), .val (.int (2 : Int32))] [(.ref a0), (.int (2 : Int32))])) t → Steps p.tables e below (s₁.setTop (entryFrame m #[(.ref a0), (.int (2 : Int32))] 2)) t := fun t kt => by
    refine pre0 _ ?_
    show Steps p.tables e below (s₁.setTop (mkF m 0 #[.val (.ref a0), .val (.int (2 : Int32))] [])) _
    refine XS.iloadN X0.here hx rfl (hb hby d6_0) rfl ?_
    show Steps p.tables e below (s₁.setTop (mkF m 1 #[.val (.ref a0), .val (.int (2 : Int32))] [(.int (2 : Int32))])) _
    refine XS.aloadN X0.here hx rfl (hb hby d6_1) rfl rfl ?_
    show Steps p.tables e below (s₁.setTop (mkF m 2 #[.val (.ref a0), .val (.int (2 : Int32))] [(.ref a0), (.int (2 : Int32))])) _
    exact kt
  have Vo_a0_30 := V_b
  obtain ⟨cl_a0_30, Ar_a0_30, q_a0_30, S_a0_30, M_a0_30, H_a0_30, G_a0_30⟩ := Vo_a0_30
  have pre30 : ∀ t, Steps p.tables e below (s₁.setTop (mkF m 3 #[.val (.ref a0), .val (.int (2 : Int32))] [(.int (2 : Int32)), (.int (2 : Int32))])) t → Steps p.tables e below (s₁.setTop (entryFrame m #[(.ref a0), (.int (2 : Int32))] 2)) t := fun t kt => by
    refine pre29 _ ?_
    refine X0.arraylength hx (by rw [e0]; exact Ar_a0_30.1) (State.isArrayOf_alike hZ.alike Ar_a0_30.2.1) (g := (mkF m 2 #[.val (.ref a0), .val (.int (2 : Int32))] [(.ref a0), (.int (2 : Int32))])) rfl rfl (hb hby d6_2) _ ?_
    rw [len_of S_a0_30 M_a0_30]
    exact kt
  have pre31 : ∀ t, Steps p.tables e below (s₁.setTop (mkF m 8 #[.val (.ref a0), .val (.int (2 : Int32))] [(.int (((((2 : Int32) - (2 : Int32)).toUInt32 >>> ((31 : Int32) &&& 31).toUInt32).toInt32).toInt8.toInt32))])) t → Steps p.tables e below (s₁.setTop (entryFrame m #[(.ref a0), (.int (2 : Int32))] 2)) t := fun t kt => by
    refine pre30 _ ?_
    show Steps p.tables e below (s₁.setTop (mkF m 3 #[.val (.ref a0), .val (.int (2 : Int32))] [(.int (2 : Int32)), (.int (2 : Int32))])) _
    refine XS.isub X0.here hx rfl (hb hby d6_3) rfl ?_
    show Steps p.tables e below (s₁.setTop (mkF m 4 #[.val (.ref a0), .val (.int (2 : Int32))] [(.int ((2 : Int32) - (2 : Int32)))])) _
    refine XS.bipush X0.here hx rfl (hb hby d6_4) ?_
    show Steps p.tables e below (s₁.setTop (mkF m 6 #[.val (.ref a0), .val (.int (2 : Int32))] [(.int (31 : Int32)), (.int ((2 : Int32) - (2 : Int32)))])) _
    refine XS.iushr X0.here hx rfl (hb hby d6_6) rfl ?_
    show Steps p.tables e below (s₁.setTop (mkF m 7 #[.val (.ref a0), .val (.int (2 : Int32))] [(.int ((((2 : Int32) - (2 : Int32)).toUInt32 >>> ((31 : Int32) &&& 31).toUInt32).toInt32))])) _
    refine XS.i2b X0.here hx rfl (hb hby d6_7) rfl ?_
    show Steps p.tables e below (s₁.setTop (mkF m 8 #[.val (.ref a0), .val (.int (2 : Int32))] [(.int (((((2 : Int32) - (2 : Int32)).toUInt32 >>> ((31 : Int32) &&& 31).toUInt32).toInt32).toInt8.toInt32))])) _
    exact kt
  obtain ⟨fs, hr, hrun, hended, hW, hsame⟩ := X0.leave (v := some (.int (0 : Int32))) (fun h => by rw [Bd.returns] at h; cases h)
  refine ⟨_, _, pre31 _ ?_, hrun, hended, _, _, rfl, ?_, ⟨_, rfl⟩, hW, hsame.mono (by decide) (by decide)⟩
  · show Steps p.tables e below (s₁.setTop (mkF m 8 #[.val (.ref a0), .val (.int (2 : Int32))] [(.int (((((2 : Int32) - (2 : Int32)).toUInt32 >>> ((31 : Int32) &&& 31).toUInt32).toInt32).toInt8.toInt32))])) _
    exact retN X0 hx (t := .byte) Bd.returns (by simp) (hb hby d6_8) hr
  · show Q6 Z a0 kb x0 x1 h0 n0 _ s₁.heap _
    rw [e0]
    exact ⟨rfl, N0, rfl⟩
theorem d2_0 : decode jdk_42_method_149_code 0 = .ok (.aload_n 0, 1) := by decide +kernel
theorem d2_1 : decode jdk_42_method_149_code 1 = .ok (.invokespecial 1, 3) := by decide +kernel
theorem d2_4 : decode jdk_42_method_149_code 4 = .ok (.iload_n 3, 1) := by decide +kernel
theorem d2_5 : decode jdk_42_method_149_code 5 = .ok (.ifCond .ne 22, 3) := by decide +kernel
theorem d2_8 : decode jdk_42_method_149_code 8 = .ok (.aload_n 0, 1) := by decide +kernel
theorem d2_9 : decode jdk_42_method_149_code 9 = .ok (.ldc 7, 2) := by decide +kernel
theorem d2_11 : decode jdk_42_method_149_code 11 = .ok (.getfield 9, 3) := by decide +kernel
theorem d2_14 : decode jdk_42_method_149_code 14 = .ok (.putfield 9, 3) := by decide +kernel
theorem d2_17 : decode jdk_42_method_149_code 17 = .ok (.aload_n 0, 1) := by decide +kernel
theorem d2_18 : decode jdk_42_method_149_code 18 = .ok (.ldc 7, 2) := by decide +kernel
theorem d2_20 : decode jdk_42_method_149_code 20 = .ok (.getfield 15, 3) := by decide +kernel
theorem d2_23 : decode jdk_42_method_149_code 23 = .ok (.putfield 15, 3) := by decide +kernel
theorem d2_26 : decode jdk_42_method_149_code 26 = .ok (.return_, 1) := by decide +kernel
theorem d2_27 : decode jdk_42_method_149_code 27 = .ok (.getstatic 38, 3) := by decide +kernel
theorem d2_30 : decode jdk_42_method_149_code 30 = .ok (.ifCond .eq 28, 3) := by decide +kernel
theorem d2_33 : decode jdk_42_method_149_code 33 = .ok (.aload_n 1, 1) := by decide +kernel
theorem d2_34 : decode jdk_42_method_149_code 34 = .ok (.iload_n 2, 1) := by decide +kernel
theorem d2_35 : decode jdk_42_method_149_code 35 = .ok (.iload_n 3, 1) := by decide +kernel
theorem d2_36 : decode jdk_42_method_149_code 36 = .ok (.invokestatic 177, 3) := by decide +kernel
theorem d2_39 : decode jdk_42_method_149_code 39 = .ok (.astore 5, 2) := by decide +kernel
theorem d2_41 : decode jdk_42_method_149_code 41 = .ok (.aload_n 0, 1) := by decide +kernel
theorem d2_42 : decode jdk_42_method_149_code 42 = .ok (.aload 5, 2) := by decide +kernel
theorem d2_44 : decode jdk_42_method_149_code 44 = .ok (.iload_n 3, 1) := by decide +kernel
theorem d2_45 : decode jdk_42_method_149_code 45 = .ok (.invokestatic 47, 3) := by decide +kernel
theorem d2_48 : decode jdk_42_method_149_code 48 = .ok (.putfield 15, 3) := by decide +kernel
theorem d2_51 : decode jdk_42_method_149_code 51 = .ok (.aload_n 0, 1) := by decide +kernel
theorem d2_52 : decode jdk_42_method_149_code 52 = .ok (.aload 5, 2) := by decide +kernel
theorem d2_54 : decode jdk_42_method_149_code 54 = .ok (.putfield 9, 3) := by decide +kernel
theorem d2_57 : decode jdk_42_method_149_code 57 = .ok (.return_, 1) := by decide +kernel
theorem d2_58 : decode jdk_42_method_149_code 58 = .ok (.aload_n 0, 1) := by decide +kernel
theorem d2_59 : decode jdk_42_method_149_code 59 = .ok (.iconst 1, 1) := by decide +kernel
theorem d2_60 : decode jdk_42_method_149_code 60 = .ok (.putfield 15, 3) := by decide +kernel
theorem d2_63 : decode jdk_42_method_149_code 63 = .ok (.aload_n 0, 1) := by decide +kernel
theorem d2_64 : decode jdk_42_method_149_code 64 = .ok (.aload_n 1, 1) := by decide +kernel
theorem d2_65 : decode jdk_42_method_149_code 65 = .ok (.iload_n 2, 1) := by decide +kernel
theorem d2_66 : decode jdk_42_method_149_code 66 = .ok (.iload_n 3, 1) := by decide +kernel
theorem d2_67 : decode jdk_42_method_149_code 67 = .ok (.invokestatic 180, 3) := by decide +kernel
theorem d2_70 : decode jdk_42_method_149_code 70 = .ok (.putfield 9, 3) := by decide +kernel
theorem d2_73 : decode jdk_42_method_149_code 73 = .ok (.return_, 1) := by decide +kernel
theorem pn_2 : plainName "java/lang/String" = true := by first | (simp [plainName, overriddenIn]; done) | decide +kernel
theorem ef_2 (m : MethodId) (x0 : Addr) (x1 : Addr) (x2 : Int32) (x3 : Int32) : entryFrame m #[(.ref x0), (.ref x1), (.int x2), (.int x3), .null] 6 = mkF m 0 #[.val (.ref x0), .val (.ref x1), .val (.int x2), .val (.int x3), .val .null, .unset] [] := by first | (simp [entryFrame, mkF, argsToLocals, Value.category]; done) | rfl
def Q2 (Z : State) (a0 : Addr) (a1 : Addr) (kc : ClassId) (c0 c1 cs : Int32) (h0 : Heap) (n0 : Nat) (v : Option Value) (h : Heap) (L : List Loc) : Prop := v = none ∧ Fr n0 L ∧ Keep h0 h [a0]
set_option maxRecDepth 65536 in
set_option maxHeartbeats 40000000 in
theorem rm2 (l : Launch) (Z : State) (aZ : Array Value) (hw : ∀ d ∈ tables_1, d.before aZ Z = true) (ws : List Jvm.Cond) (a0 : Addr) (a1 : Addr) (kc : ClassId) (c0 c1 cs : Int32) (h0 : Heap) (n0 : Nat) (Z0 : n0 ≤ h0.size) (F_value : Fld Z h0 a0 "java/lang/String" "value" "[B" .null) (F_coder : Fld Z h0 a0 "java/lang/String" "coder" "B" (.int (0 : Int32))) (E_o : Exa Z h0 a0 "java/lang/String") (g_a0 : n0 ≤ a0) (V_c : Arv Z h0 a1 kc .char (2 : Int32) [(.int c0), (.int c1)] (.int (0 : Int32))) (hne : a1 ≠ a0) (hc0 : ¬ (255 : Int32) < c0) (hc1 : ¬ (255 : Int32) < c1) (S_C : Sta Z h0 "java/lang/String" "COMPACT_STRINGS" "Z" (.int cs)) (hcs : ¬ cs = (0 : Int32)) :
    MetFree l (⟨"java/lang/String", "<init>", "([CIILjava/lang/Void;)V"⟩ : MethodName) (head1 (Jvm.Cond.code (⟨"java/lang/String", "<init>", "([CIILjava/lang/Void;)V"⟩ : MethodName) jdk_42_method_149_code 6 none :: ws) ({ frames := 2, cells := 1, slots := 2, locals := 36 } : Room)) (fun a U => a = #[(.ref a0), (.ref a1), (.int (0 : Int32)), (.int (2 : Int32)), .null] ∧ Z.Warmed39 U.vm ∧ U.heap = h0) (fun _ _ _ _ _ => True) (fun _ U oc U' => ∃ v L, oc = .returned v ∧ Q2 Z a0 a1 kc c0 c1 cs h0 n0 v U'.heap L ∧ FrameEnd U oc U' L ({ frames := 2, cells := 1, slots := 2, locals := 36 } : Room).cells ({ frames := 2, cells := 1, slots := 2, locals := 36 } : Room).slots) := by
  refine MetFree.of_bodySF (plainFor_of_name pn_2) hisR ?_
  intro p e s m args below meth c s₁ Bd hml0 hP hK
  obtain ⟨rfl, hZ, hh⟩ := hP
  have hx := Bd.exec
  have hby := Bd.bytes
  have hml : c.maxLocals = 6 := hml0
  have hown : s.vm.findClass "java/lang/String" = some m.cls := findClass_of_methodNamed Bd.named
  have hnm := (name_of_methodNamed Bd.named Bd.method).1
  have X0 : Stand p l e ({ frames := 2, cells := 1, slots := 2, locals := 36 } : Room) s m #[(.ref a0), (.ref a1), (.int (0 : Int32)), (.int (2 : Int32)), .null] below meth c s₁ [] 0 0 := Stand.of_body Bd
  have e0 : s₁.heap = h0 := by rw [← hh, Bd.state]; rfl
  have N0 := Fr.nil n0
  have pre0 : ∀ t, Steps p.tables e below (s₁.setTop (mkF m 0 #[.val (.ref a0), .val (.ref a1), .val (.int (0 : Int32)), .val (.int (2 : Int32)), .val .null, .unset] [])) t → Steps p.tables e below (s₁.setTop (entryFrame m #[(.ref a0), (.ref a1), (.int (0 : Int32)), (.int (2 : Int32)), .null] 6)) t := fun t kt => castTop (ef_2 m a0 a1 (0 : Int32) (2 : Int32)) kt
  have pre32 : ∀ t, Steps p.tables e below (s₁.setTop (mkF m 1 #[.val (.ref a0), .val (.ref a1), .val (.int (0 : Int32)), .val (.int (2 : Int32)), .val .null, .unset] [(.ref a0)])) t → Steps p.tables e below (s₁.setTop (entryFrame m #[(.ref a0), (.ref a1), (.int (0 : Int32)), (.int (2 : Int32)), .null] 6)) t := fun t kt => by
    refine pre0 _ ?_
    show Steps p.tables e below (s₁.setTop (mkF m 0 #[.val (.ref a0), .val (.ref a1), .val (.int (0 : Int32)), .val (.int (2 : Int32)), .val .null, .unset] [])) _
    refine XS.aloadN X0.here hx rfl (hb hby d2_0) rfl rfl ?_
    show Steps p.tables e below (s₁.setTop (mkF m 1 #[.val (.ref a0), .val (.ref a1), .val (.int (0 : Int32)), .val (.int (2 : Int32)), .val .null, .unset] [(.ref a0)])) _
    exact kt
  obtain ⟨T33, X33, e33, st33⟩ := initO X0 hx hZ hown (hw _ (List.mem_of_getElem? (i := 14) rfl)) (hw _ (List.mem_of_getElem? (i := 15) rfl)) (hw _ (List.mem_of_getElem? (i := 16) rfl)) e0 (g := (mkF m 1 #[.val (.ref a0), .val (.ref a1), .val (.int (0 : Int32)), .val (.int (2 : Int32)), .val .null, .unset] [(.ref a0)])) rfl (by rw [hml]; rfl) rfl (hb hby d2_1) (by decide) (W := 0) (by show 2 * 0 + _ ≤ _; exact Nat.le_of_eq rfl) (by decide)
  have pre33 : ∀ t, Steps p.tables e below (T33.setTop (mkF m 4 #[.val (.ref a0), .val (.ref a1), .val (.int (0 : Int32)), .val (.int (2 : Int32)), .val .null, .unset] [])) t → Steps p.tables e below (s₁.setTop (entryFrame m #[(.ref a0), (.ref a1), (.int (0 : Int32)), (.int (2 : Int32)), .null] 6)) t := fun t kt => pre32 _ (st33 t kt)
  have pre34 : ∀ t, Steps p.tables e below (T33.setTop (mkF m 5 #[.val (.ref a0), .val (.ref a1), .val (.int (0 : Int32)), .val (.int (2 : Int32)), .val .null, .unset] [(.int (2 : Int32))])) t → Steps p.tables e below (s₁.setTop (entryFrame m #[(.ref a0), (.ref a1), (.int (0 : Int32)), (.int (2 : Int32)), .null] 6)) t := fun t kt => by
    refine pre33 _ ?_
    show Steps p.tables e below (T33.setTop (mkF m 4 #[.val (.ref a0), .val (.ref a1), .val (.int (0 : Int32)), .val (.int (2 : Int32)), .val .null, .unset] [])) _
    refine XS.iloadN X33.here hx rfl (hb hby d2_4) rfl ?_
    show Steps p.tables e below (T33.setTop (mkF m 5 #[.val (.ref a0), .val (.ref a1), .val (.int (0 : Int32)), .val (.int (2 : Int32)), .val .null, .unset] [(.int (2 : Int32))])) _
    exact kt
  have pre35 : ∀ t, Steps p.tables e below (T33.setTop (mkF m 27 #[.val (.ref a0), .val (.ref a1), .val (.int (0 : Int32)), .val (.int (2 : Int32)), .val .null, .unset] [])) t → Steps p.tables e below (s₁.setTop (entryFrame m #[(.ref a0), (.ref a1), (.int (0 : Int32)), (.int (2 : Int32)), .null] 6)) t := fun t kt => by
    refine pre34 _ ?_
    show Steps p.tables e below (T33.setTop (mkF m 5 #[.val (.ref a0), .val (.ref a1), .val (.int (0 : Int32)), .val (.int (2 : Int32)), .val .null, .unset] [(.int (2 : Int32))])) _
    refine XS.ifYes X33.here hx rfl (pc0 := 5) (pc' := 27) rfl (hb hby d2_5) rfl ((if0 _ _).trans (feq (by decide : ¬ ((2 : Int32) = (0 : Int32)))).2) (by decide) (by decide) ?_
    show Steps p.tables e below (T33.setTop (mkF m 27 #[.val (.ref a0), .val (.ref a1), .val (.int (0 : Int32)), .val (.int (2 : Int32)), .val .null, .unset] [])) _
    exact kt
  obtain ⟨T37, X37, e37, st37⟩ := getS2 X33 hx hZ hown (host := "") (Or.inl (hw _ (List.mem_of_getElem? (i := 17) rfl))) Via.refl e33 S_C (g := (mkF m 27 #[.val (.ref a0), .val (.ref a1), .val (.int (0 : Int32)), .val (.int (2 : Int32)), .val .null, .unset] [])) rfl (hb hby d2_27)
  have pre37 : ∀ t, Steps p.tables e below (T37.setTop (mkF m 30 #[.val (.ref a0), .val (.ref a1), .val (.int (0 : Int32)), .val (.int (2 : Int32)), .val .null, .unset] [(.int cs)])) t → Steps p.tables e below (s₁.setTop (entryFrame m #[(.ref a0), (.ref a1), (.int (0 : Int32)), (.int (2 : Int32)), .null] 6)) t := fun t kt => pre35 _ (st37 t kt)
  have pre39 : ∀ t, Steps p.tables e below (T37.setTop (mkF m 33 #[.val (.ref a0), .val (.ref a1), .val (.int (0 : Int32)), .val (.int (2 : Int32)), .val .null, .unset] [])) t → Steps p.tables e below (s₁.setTop (entryFrame m #[(.ref a0), (.ref a1), (.int (0 : Int32)), (.int (2 : Int32)), .null] 6)) t := fun t kt => by
    refine pre37 _ ?_
    show Steps p.tables e below (T37.setTop (mkF m 30 #[.val (.ref a0), .val (.ref a1), .val (.int (0 : Int32)), .val (.int (2 : Int32)), .val .null, .unset] [(.int cs)])) _
    refine XS.ifNo X37.here hx rfl (hb hby d2_30) rfl ((if0 _ _).trans (feq hcs).1) ?_
    show Steps p.tables e below (T37.setTop (mkF m 33 #[.val (.ref a0), .val (.ref a1), .val (.int (0 : Int32)), .val (.int (2 : Int32)), .val .null, .unset] [])) _
    exact kt
  have pre40 : ∀ t, Steps p.tables e below (T37.setTop (mkF m 36 #[.val (.ref a0), .val (.ref a1), .val (.int (0 : Int32)), .val (.int (2 : Int32)), .val .null, .unset] [(.int (2 : Int32)), (.int (0 : Int32)), (.ref a1)])) t → Steps p.tables e below (s₁.setTop (entryFrame m #[(.ref a0), (.ref a1), (.int (0 : Int32)), (.int (2 : Int32)), .null] 6)) t := fun t kt => by
    refine pre39 _ ?_
    show Steps p.tables e below (T37.setTop (mkF m 33 #[.val (.ref a0), .val (.ref a1), .val (.int (0 : Int32)), .val (.int (2 : Int32)), .val .null, .unset] [])) _
    refine XS.aloadN X37.here hx rfl (hb hby d2_33) rfl rfl ?_
    show Steps p.tables e below (T37.setTop (mkF m 34 #[.val (.ref a0), .val (.ref a1), .val (.int (0 : Int32)), .val (.int (2 : Int32)), .val .null, .unset] [(.ref a1)])) _
    refine XS.iloadN X37.here hx rfl (hb hby d2_34) rfl ?_
    show Steps p.tables e below (T37.setTop (mkF m 35 #[.val (.ref a0), .val (.ref a1), .val (.int (0 : Int32)), .val (.int (2 : Int32)), .val .null, .unset] [(.int (0 : Int32)), (.ref a1)])) _
    refine XS.iloadN X37.here hx rfl (hb hby d2_35) rfl ?_
    show Steps p.tables e below (T37.setTop (mkF m 36 #[.val (.ref a0), .val (.ref a1), .val (.int (0 : Int32)), .val (.int (2 : Int32)), .val .null, .unset] [(.int (2 : Int32)), (.int (0 : Int32)), (.ref a1)])) _
    exact kt
  obtain ⟨v41, _, ⟨T41, L41, k41, n41⟩, -, X41, ⟨Lc41, hQ41, l41, y41, z41⟩, st41⟩ := Jvm.LawKit.callS X37 hx (y := (⟨"java/lang/StringUTF16", "compress", "([CII)[B"⟩ : MethodName)) hown (mvT hZ (hw _ (List.mem_of_getElem? (i := 18) rfl))) (mvT hZ (hw _ (List.mem_of_getElem? (i := 19) rfl))) (mvT hZ (hw _ (List.mem_of_getElem? (i := 20) rfl))) (mvT hZ (hw _ (List.mem_of_getElem? (i := 21) rfl))) (by decide) (backOf (W := 0) (rm4 l Z aZ hw [] a1 kc c0 c1 h0 n0 Z0 V_c hc0 hc1) hZ (hw _ (List.mem_of_getElem? (i := 21) rfl)) (hw _ (List.mem_of_getElem? (i := 20) rfl)) (by decide) (by decide)) (g := (mkF m 36 #[.val (.ref a0), .val (.ref a1), .val (.int (0 : Int32)), .val (.int (2 : Int32)), .val .null, .unset] [(.int (2 : Int32)), (.int (0 : Int32)), (.ref a1)])) rfl (by rw [hml]; rfl) (argsL := [(.ref a1), (.int (0 : Int32)), (.int (2 : Int32))]) (rest := []) (lenOf pd_3 rfl) rfl (by show 2 * 0 + _ ≤ _; exact Nat.le_of_eq rfl) (hb hby d2_36) (fun _ _ => ⟨rfl, e37, (by decide : 0 + 1 ≤ _), (by decide : 0 + 2 ≤ _)⟩)
  dsimp only [Pt.U, Pt.locs, Pt.cells, Pt.slots] at X41 l41 y41 z41 st41 hQ41
  rw [l41, y41, z41] at X41
  clear l41 y41 z41
  obtain ⟨rb41, kb41, vq41, N41q, Kc41, sq41, Vq41⟩ := hQ41
  rw [vq41] at st41
  have N41 := Fr.app N0 N41q
  have pre41 : ∀ t, Steps p.tables e below (T41.setTop (mkF m 39 #[.val (.ref a0), .val (.ref a1), .val (.int (0 : Int32)), .val (.int (2 : Int32)), .val .null, .unset] [(.ref rb41)])) t → Steps p.tables e below (s₁.setTop (entryFrame m #[(.ref a0), (.ref a1), (.int (0 : Int32)), (.int (2 : Int32)), .null] 6)) t := fun t kt => pre40 _ (st41 t kt)
  have Zs41 : n0 ≤ T41.heap.size := Nat.le_trans Z0 Kc41.1
  have K0 := Keep.refl h0 [a0]
  have ne_a0_rb41 : a0 ≠ rb41 := Nat.ne_of_lt (Nat.lt_of_lt_of_le E_o.lt sq41)
  have ne_a1_rb41 : a1 ≠ rb41 := Nat.ne_of_lt (Nat.lt_of_lt_of_le V_c.lt sq41)
  have g_rb41 : n0 ≤ rb41 := Nat.le_trans Z0 sq41
  have sz_rb41 : h0.size ≤ rb41 := Nat.le_trans K0.1 sq41
  have F41_0 := E_o.keep Kc41
  have F41_1 := F_value.keep Kc41 (by simp)
  have F41_2 := F_coder.keep Kc41 (by simp)
  have F41_3 := V_c.keep Kc41 (by simp)
  have F41_4 := own_sta_keep S_C Kc41 (by simp)
  have K41 := K0.trans Kc41 (by simp)
  have pre42 : ∀ t, Steps p.tables e below (T41.setTop (mkF m 45 #[.val (.ref a0), .val (.ref a1), .val (.int (0 : Int32)), .val (.int (2 : Int32)), .val .null, .val (.ref rb41)] [(.int (2 : Int32)), (.ref rb41), (.ref a0)])) t → Steps p.tables e below (s₁.setTop (entryFrame m #[(.ref a0), (.ref a1), (.int (0 : Int32)), (.int (2 : Int32)), .null] 6)) t := fun t kt => by
    refine pre41 _ ?_
    show Steps p.tables e below (T41.setTop (mkF m 39 #[.val (.ref a0), .val (.ref a1), .val (.int (0 : Int32)), .val (.int (2 : Int32)), .val .null, .unset] [(.ref rb41)])) _
    refine XS.astore X41.here hx rfl (hb hby d2_39) rfl rfl (l' := #[.val (.ref a0), .val (.ref a1), .val (.int (0 : Int32)), .val (.int (2 : Int32)), .val .null, .val (.ref rb41)]) rfl ?_
    show Steps p.tables e below (T41.setTop (mkF m 41 #[.val (.ref a0), .val (.ref a1), .val (.int (0 : Int32)), .val (.int (2 : Int32)), .val .null, .val (.ref rb41)] [])) _
    refine XS.aloadN X41.here hx rfl (hb hby d2_41) rfl rfl ?_
    show Steps p.tables e below (T41.setTop (mkF m 42 #[.val (.ref a0), .val (.ref a1), .val (.int (0 : Int32)), .val (.int (2 : Int32)), .val .null, .val (.ref rb41)] [(.ref a0)])) _
    refine XS.aload X41.here hx rfl (hb hby d2_42) rfl rfl ?_
    show Steps p.tables e below (T41.setTop (mkF m 44 #[.val (.ref a0), .val (.ref a1), .val (.int (0 : Int32)), .val (.int (2 : Int32)), .val .null, .val (.ref rb41)] [(.ref rb41), (.ref a0)])) _
    refine XS.iloadN X41.here hx rfl (hb hby d2_44) rfl ?_
    show Steps p.tables e below (T41.setTop (mkF m 45 #[.val (.ref a0), .val (.ref a1), .val (.int (0 : Int32)), .val (.int (2 : Int32)), .val .null, .val (.ref rb41)] [(.int (2 : Int32)), (.ref rb41), (.ref a0)])) _
    exact kt
  obtain ⟨v43, _, ⟨T43, L43, k43, n43⟩, -, X43, ⟨Lc43, hQ43, l43, y43, z43⟩, st43⟩ := Jvm.LawKit.callS X41 hx (y := (⟨"java/lang/StringUTF16", "coderFromArrayLen", "([BI)B"⟩ : MethodName)) hown (mvT hZ (hw _ (List.mem_of_getElem? (i := 26) rfl))) (mvT hZ (hw _ (List.mem_of_getElem? (i := 27) rfl))) (mvT hZ (hw _ (List.mem_of_getElem? (i := 20) rfl))) (mvT hZ (hw _ (List.mem_of_getElem? (i := 28) rfl))) (by decide) (backOf (W := 1) (rm6 l Z aZ hw [] rb41 kb41 (nar .byte (c0.toInt8.toInt32)) (nar .byte (c1.toInt8.toInt32)) T41.heap n0 Zs41 Vq41) hZ (hw _ (List.mem_of_getElem? (i := 28) rfl)) (hw _ (List.mem_of_getElem? (i := 20) rfl)) (by decide) (by decide)) (g := (mkF m 45 #[.val (.ref a0), .val (.ref a1), .val (.int (0 : Int32)), .val (.int (2 : Int32)), .val .null, .val (.ref rb41)] [(.int (2 : Int32)), (.ref rb41), (.ref a0)])) rfl (by rw [hml]; rfl) (argsL := [(.ref rb41), (.int (2 : Int32))]) (rest := [(.ref a0)]) (lenOf pd_5 rfl) rfl (by show 2 * 0 + _ ≤ _; exact Nat.le_of_eq rfl) (hb hby d2_45) (fun _ _ => ⟨rfl, rfl, (by decide : 1 + 0 ≤ _), (by decide : 2 + 0 ≤ _)⟩)
  dsimp only [Pt.U, Pt.locs, Pt.cells, Pt.slots] at X43 l43 y43 z43 st43 hQ43
  rw [l43, y43, z43] at X43
  clear l43 y43 z43
  obtain ⟨vq43, N43q, e43⟩ := hQ43
  rw [vq43] at st43
  have N43 := Fr.app N41 N43q
  have pre43 : ∀ t, Steps p.tables e below (T43.setTop (mkF m 48 #[.val (.ref a0), .val (.ref a1), .val (.int (0 : Int32)), .val (.int (2 : Int32)), .val .null, .val (.ref rb41)] [(.int (0 : Int32)), (.ref a0)])) t → Steps p.tables e below (s₁.setTop (entryFrame m #[(.ref a0), (.ref a1), (.int (0 : Int32)), (.int (2 : Int32)), .null] 6)) t := fun t kt => pre42 _ (st43 t kt)
  obtain ⟨T45, h45, X45, e45, W45, st45⟩ := putFN X43 hx hZ hown (hw _ (List.mem_of_getElem? (i := 29) rfl)) Via.refl e43 F41_2 F41_0 (Or.inr ⟨(hw _ (List.mem_of_getElem? (i := 30) rfl)), rfl, hnm⟩) (hw _ (List.mem_of_getElem? (i := 5) rfl)) (ty := .byte) (v' := (.int (nar .byte (0 : Int32)))) (by decide) rfl (fits_nar_byte _) (g := (mkF m 48 #[.val (.ref a0), .val (.ref a1), .val (.int (0 : Int32)), .val (.int (2 : Int32)), .val .null, .val (.ref rb41)] [(.int (0 : Int32)), (.ref a0)])) rfl rfl (hb hby d2_48)
  have F45_0 := F41_0.wr W45
  have F45_1 := F41_1.other W45 (Or.inr (slot_ne (Or.inr (hw _ (List.mem_of_getElem? (i := 32) rfl))) (Or.inr (hw _ (List.mem_of_getElem? (i := 30) rfl))) (by decide) (t := (.array .byte)) (t' := .byte) (by decide) (by decide)))
  have F45_2 := F41_2.same W45
  have F45_3 := F41_3.other W45 hne
  have F45_4 := F41_4.wr W45
  have F45_5 := Vq41.other W45 (Ne.symm ne_a0_rb41)
  have Zs45 : n0 ≤ h45.size := Nat.le_trans Zs41 (Keep.of_wr W45).1
  have K45 := K41.wr W45 (Or.inl (List.mem_of_getElem? (i := 0) rfl))
  have N45 := Fr.snoc X45 N43 g_a0
  have pre45 : ∀ t, Steps p.tables e below (T45.setTop (mkF m 51 #[.val (.ref a0), .val (.ref a1), .val (.int (0 : Int32)), .val (.int (2 : Int32)), .val .null, .val (.ref rb41)] [])) t → Steps p.tables e below (s₁.setTop (entryFrame m #[(.ref a0), (.ref a1), (.int (0 : Int32)), (.int (2 : Int32)), .null] 6)) t := fun t kt => pre43 _ (st45 t kt)
  have pre46 : ∀ t, Steps p.tables e below (T45.setTop (mkF m 54 #[.val (.ref a0), .val (.ref a1), .val (.int (0 : Int32)), .val (.int (2 : Int32)), .val .null, .val (.ref rb41)] [(.ref rb41), (.ref a0)])) t → Steps p.tables e below (s₁.setTop (entryFrame m #[(.ref a0), (.ref a1), (.int (0 : Int32)), (.int (2 : Int32)), .null] 6)) t := fun t kt => by
    refine pre45 _ ?_
    show Steps p.tables e below (T45.setTop (mkF m 51 #[.val (.ref a0), .val (.ref a1), .val (.int (0 : Int32)), .val (.int (2 : Int32)), .val .null, .val (.ref rb41)] [])) _
    refine XS.aloadN X45.here hx rfl (hb hby d2_51) rfl rfl ?_
    show Steps p.tables e below (T45.setTop (mkF m 52 #[.val (.ref a0), .val (.ref a1), .val (.int (0 : Int32)), .val (.int (2 : Int32)), .val .null, .val (.ref rb41)] [(.ref a0)])) _
    refine XS.aload X45.here hx rfl (hb hby d2_52) rfl rfl ?_
    show Steps p.tables e below (T45.setTop (mkF m 54 #[.val (.ref a0), .val (.ref a1), .val (.int (0 : Int32)), .val (.int (2 : Int32)), .val .null, .val (.ref rb41)] [(.ref rb41), (.ref a0)])) _
    exact kt
  obtain ⟨T47, h47, X47, e47, W47, st47⟩ := putF X45 hx hZ hown (host := "") (Or.inl (hw _ (List.mem_of_getElem? (i := 31) rfl))) Via.refl e45 F45_1 F45_0 (Or.inr ⟨(hw _ (List.mem_of_getElem? (i := 32) rfl)), rfl, hnm⟩) (hw _ (List.mem_of_getElem? (i := 5) rfl)) (ty := (.array .byte)) (by decide) rfl rfl (g := (mkF m 54 #[.val (.ref a0), .val (.ref a1), .val (.int (0 : Int32)), .val (.int (2 : Int32)), .val .null, .val (.ref rb41)] [(.ref rb41), (.ref a0)])) rfl rfl (hb hby d2_54)
  have F47_0 := F45_0.wr W47
  have F47_1 := F45_1.same W47
  have F47_2 := F45_2.other W47 (Or.inr (slot_ne (Or.inr (hw _ (List.mem_of_getElem? (i := 30) rfl))) (Or.inr (hw _ (List.mem_of_getElem? (i := 32) rfl))) (by decide) (t := .byte) (t' := (.array .byte)) (by decide) (by decide)))
  have F47_3 := F45_3.other W47 hne
  have F47_4 := F45_4.wr W47
  have F47_5 := F45_5.other W47 (Ne.symm ne_a0_rb41)
  have Zs47 : n0 ≤ h47.size := Nat.le_trans Zs45 (Keep.of_wr W47).1
  have K47 := K45.wr W47 (Or.inl (List.mem_of_getElem? (i := 0) rfl))
  have N47 := Fr.snoc X47 N45 g_a0
  have pre47 : ∀ t, Steps p.tables e below (T47.setTop (mkF m 57 #[.val (.ref a0), .val (.ref a1), .val (.int (0 : Int32)), .val (.int (2 : Int32)), .val .null, .val (.ref rb41)] [])) t → Steps p.tables e below (s₁.setTop (entryFrame m #[(.ref a0), (.ref a1), (.int (0 : Int32)), (.int (2 : Int32)), .null] 6)) t := fun t kt => pre46 _ (st47 t kt)
  obtain ⟨fs, hr, hrun, hended, hW, hsame⟩ := X47.leave (v := none) (fun _ => rfl)
  refine ⟨_, _, pre47 _ ?_, hrun, hended, _, _, rfl, ?_, ⟨_, rfl⟩, hW, hsame.mono (by decide) (by decide)⟩
  · show Steps p.tables e below (T47.setTop (mkF m 57 #[.val (.ref a0), .val (.ref a1), .val (.int (0 : Int32)), .val (.int (2 : Int32)), .val .null, .val (.ref rb41)] [])) _
    exact X47.returnOut hx Bd.returns (hb hby d2_57) hr
  · show Q2 Z a0 a1 kc c0 c1 cs h0 n0 _ T47.heap _
    rw [e47]
    exact ⟨rfl, N47, K47⟩
theorem d1_0 : decode jdk_42_method_3_code 0 = .ok (.aload_n 0, 1) := by decide +kernel
theorem d1_1 : decode jdk_42_method_3_code 1 = .ok (.aload_n 1, 1) := by decide +kernel
theorem d1_2 : decode jdk_42_method_3_code 2 = .ok (.iconst 0, 1) := by decide +kernel
theorem d1_3 : decode jdk_42_method_3_code 3 = .ok (.aload_n 1, 1) := by decide +kernel
theorem d1_4 : decode jdk_42_method_3_code 4 = .ok (.arraylength, 1) := by decide +kernel
theorem d1_5 : decode jdk_42_method_3_code 5 = .ok (.aconst_null, 1) := by decide +kernel
theorem d1_6 : decode jdk_42_method_3_code 6 = .ok (.invokespecial 27, 3) := by decide +kernel
theorem d1_9 : decode jdk_42_method_3_code 9 = .ok (.return_, 1) := by decide +kernel
theorem ef_1 (m : MethodId) (x0 : Addr) (x1 : Addr) : entryFrame m #[(.ref x0), (.ref x1)] 2 = mkF m 0 #[.val (.ref x0), .val (.ref x1)] [] := by first | (simp [entryFrame, mkF, argsToLocals, Value.category]; done) | rfl
def Q1 (Z : State) (a0 : Addr) (a1 : Addr) (kc : ClassId) (c0 c1 cs : Int32) (h0 : Heap) (n0 : Nat) (v : Option Value) (h : Heap) (L : List Loc) : Prop := v = none ∧ Fr n0 L ∧ Keep h0 h [a0]
set_option maxRecDepth 65536 in
set_option maxHeartbeats 40000000 in
theorem rm1 (l : Launch) (Z : State) (aZ : Array Value) (hw : ∀ d ∈ tables_1, d.before aZ Z = true) (ws : List Jvm.Cond) (a0 : Addr) (a1 : Addr) (kc : ClassId) (c0 c1 cs : Int32) (h0 : Heap) (n0 : Nat) (Z0 : n0 ≤ h0.size) (F_value : Fld Z h0 a0 "java/lang/String" "value" "[B" .null) (F_coder : Fld Z h0 a0 "java/lang/String" "coder" "B" (.int (0 : Int32))) (E_o : Exa Z h0 a0 "java/lang/String") (g_a0 : n0 ≤ a0) (V_c : Arv Z h0 a1 kc .char (2 : Int32) [(.int c0), (.int c1)] (.int (0 : Int32))) (hne : a1 ≠ a0) (hc0 : ¬ (255 : Int32) < c0) (hc1 : ¬ (255 : Int32) < c1) (S_C : Sta Z h0 "java/lang/String" "COMPACT_STRINGS" "Z" (.int cs)) (hcs : ¬ cs = (0 : Int32)) :
    MetFree l (⟨"java/lang/String", "<init>", "([C)V"⟩ : MethodName) (head1 (Jvm.Cond.code (⟨"java/lang/String", "<init>", "([C)V"⟩ : MethodName) jdk_42_method_3_code 2 none :: ws) ({ frames := 3, cells := 1, slots := 2, locals := 54 } : Room)) (fun a U => a = #[(.ref a0), (.ref a1)] ∧ Z.Warmed39 U.vm ∧ U.heap = h0) (fun _ _ _ _ _ => True) (fun _ U oc U' => ∃ v L, oc = .returned v ∧ Q1 Z a0 a1 kc c0 c1 cs h0 n0 v U'.heap L ∧ FrameEnd U oc U' L ({ frames := 3, cells := 1, slots := 2, locals := 54 } : Room).cells ({ frames := 3, cells := 1, slots := 2, locals := 54 } : Room).slots) := by
  refine MetFree.of_bodySF (plainFor_of_name pn_2) hisR ?_
  intro p e s m args below meth c s₁ Bd hml0 hP hK
  obtain ⟨rfl, hZ, hh⟩ := hP
  have hx := Bd.exec
  have hby := Bd.bytes
  have hml : c.maxLocals = 2 := hml0
  have hown : s.vm.findClass "java/lang/String" = some m.cls := findClass_of_methodNamed Bd.named
  have hnm := (name_of_methodNamed Bd.named Bd.method).1
  have X0 : Stand p l e ({ frames := 3, cells := 1, slots := 2, locals := 54 } : Room) s m #[(.ref a0), (.ref a1)] below meth c s₁ [] 0 0 := Stand.of_body Bd
  have e0 : s₁.heap = h0 := by rw [← hh, Bd.state]; rfl
  have N0 := Fr.nil n0
  have pre0 : ∀ t, Steps p.tables e below (s₁.setTop (mkF m 0 #[.val (.ref a0), .val (.ref a1)] [])) t → Steps p.tables e below (s₁.setTop (entryFrame m #[(.ref a0), (.ref a1)] 2)) t := fun t kt => castTop (ef_1 m a0 a1) kt
  have pre49 : ∀ t, Steps p.tables e below (s₁.setTop (mkF m 4 #[.val (.ref a0), .val (.ref a1)] [(.ref a1), (.int (0 : Int32)), (.ref a1), (.ref a0)])) t → Steps p.tables e below (s₁.setTop (entryFrame m #[(.ref a0), (.ref a1)] 2)) t := fun t kt => by
    refine pre0 _ ?_
    show Steps p.tables e below (s₁.setTop (mkF m 0 #[.val (.ref a0), .val (.ref a1)] [])) _
    refine XS.aloadN X0.here hx rfl (hb hby d1_0) rfl rfl ?_
    show Steps p.tables e below (s₁.setTop (mkF m 1 #[.val (.ref a0), .val (.ref a1)] [(.ref a0)])) _
    refine XS.aloadN X0.here hx rfl (hb hby d1_1) rfl rfl ?_
    show Steps p.tables e below (s₁.setTop (mkF m 2 #[.val (.ref a0), .val (.ref a1)] [(.ref a1), (.ref a0)])) _
    refine XS.iconst X0.here hx rfl (hb hby d1_2) ?_
    show Steps p.tables e below (s₁.setTop (mkF m 3 #[.val (.ref a0), .val (.ref a1)] [(.int (0 : Int32)), (.ref a1), (.ref a0)])) _
    refine XS.aloadN X0.here hx rfl (hb hby d1_3) rfl rfl ?_
    show Steps p.tables e below (s₁.setTop (mkF m 4 #[.val (.ref a0), .val (.ref a1)] [(.ref a1), (.int (0 : Int32)), (.ref a1), (.ref a0)])) _
    exact kt
  have Vo_a1_50 := V_c
  obtain ⟨cl_a1_50, Ar_a1_50, q_a1_50, S_a1_50, M_a1_50, H_a1_50, G_a1_50⟩ := Vo_a1_50
  have pre50 : ∀ t, Steps p.tables e below (s₁.setTop (mkF m 5 #[.val (.ref a0), .val (.ref a1)] [(.int (2 : Int32)), (.int (0 : Int32)), (.ref a1), (.ref a0)])) t → Steps p.tables e below (s₁.setTop (entryFrame m #[(.ref a0), (.ref a1)] 2)) t := fun t kt => by
    refine pre49 _ ?_
    refine X0.arraylength hx (by rw [e0]; exact Ar_a1_50.1) (State.isArrayOf_alike hZ.alike Ar_a1_50.2.1) (g := (mkF m 4 #[.val (.ref a0), .val (.ref a1)] [(.ref a1), (.int (0 : Int32)), (.ref a1), (.ref a0)])) rfl rfl (hb hby d1_4) _ ?_
    rw [len_of S_a1_50 M_a1_50]
    exact kt
  have pre51 : ∀ t, Steps p.tables e below (s₁.setTop (mkF m 6 #[.val (.ref a0), .val (.ref a1)] [.null, (.int (2 : Int32)), (.int (0 : Int32)), (.ref a1), (.ref a0)])) t → Steps p.tables e below (s₁.setTop (entryFrame m #[(.ref a0), (.ref a1)] 2)) t := fun t kt => by
    refine pre50 _ ?_
    show Steps p.tables e below (s₁.setTop (mkF m 5 #[.val (.ref a0), .val (.ref a1)] [(.int (2 : Int32)), (.int (0 : Int32)), (.ref a1), (.ref a0)])) _
    refine XS.aconstNull X0.here hx rfl (hb hby d1_5) ?_
    show Steps p.tables e below (s₁.setTop (mkF m 6 #[.val (.ref a0), .val (.ref a1)] [.null, (.int (2 : Int32)), (.int (0 : Int32)), (.ref a1), (.ref a0)])) _
    exact kt
  obtain ⟨v52, _, ⟨T52, L52, k52, n52⟩, -, X52, ⟨Lc52, hQ52, l52, y52, z52⟩, st52⟩ := X0.specialBack hx (y := (⟨"java/lang/String", "<init>", "([CIILjava/lang/Void;)V"⟩ : MethodName)) rfl hown (mvT hZ (hw _ (List.mem_of_getElem? (i := 10) rfl))) (mvT hZ (hw _ (List.mem_of_getElem? (i := 11) rfl))) (mvT hZ (hw _ (List.mem_of_getElem? (i := 13) rfl))) (by decide) (backOf (W := 0) (rm2 l Z aZ hw [] a0 a1 kc c0 c1 cs h0 n0 Z0 F_value F_coder E_o g_a0 V_c hne hc0 hc1 S_C hcs) hZ (hw _ (List.mem_of_getElem? (i := 13) rfl)) (hw _ (List.mem_of_getElem? (i := 6) rfl)) (by decide) (by decide)) (g := (mkF m 6 #[.val (.ref a0), .val (.ref a1)] [.null, (.int (2 : Int32)), (.int (0 : Int32)), (.ref a1), (.ref a0)])) rfl (by rw [hml]; rfl) (Steps.refl _) (a := a0) (argsL := [(.ref a1), (.int (0 : Int32)), (.int (2 : Int32)), .null]) (rest := []) (lenOf pd_1 rfl) rfl (by show 2 * 0 + _ ≤ _; exact Nat.le_of_eq rfl) (hb hby d1_6) (fun _ _ => ⟨rfl, e0, (by decide : 0 + 1 ≤ _), (by decide : 0 + 2 ≤ _)⟩)
  dsimp only [Pt.U, Pt.locs, Pt.cells, Pt.slots] at X52 l52 y52 z52 st52 hQ52
  rw [l52, y52, z52] at X52
  clear l52 y52 z52
  obtain ⟨vq52, N52q, Kc52⟩ := hQ52
  rw [vq52] at st52
  have N52 := Fr.app N0 N52q
  have pre52 : ∀ t, Steps p.tables e below (T52.setTop (mkF m 9 #[.val (.ref a0), .val (.ref a1)] [])) t → Steps p.tables e below (s₁.setTop (entryFrame m #[(.ref a0), (.ref a1)] 2)) t := fun t kt => pre51 _ (st52.trans kt)
  have Zs52 : n0 ≤ T52.heap.size := Nat.le_trans Z0 Kc52.1
  have K0 := Keep.refl h0 [a0]
  have F52_0 := E_o.keep Kc52
  have F52_1 := V_c.keep Kc52 (by intro q; simp only [List.mem_cons, List.not_mem_nil, or_false] at q; exact hne q)
  have F52_2 := own_sta_keep S_C Kc52 (by intro x hx c hc; simp only [List.mem_cons, List.not_mem_nil, or_false] at hx; rcases hx with rfl <;> first | exact E_o.nostat c hc)
  have K52 := K0.trans Kc52 (by intro x hx; simp only [List.mem_cons, List.not_mem_nil, or_false] at hx; rcases hx with rfl <;> first | exact Or.inl (List.mem_of_getElem? (i := 0) rfl))
  obtain ⟨fs, hr, hrun, hended, hW, hsame⟩ := X52.leave (v := none) (fun _ => rfl)
  refine ⟨_, _, pre52 _ ?_, hrun, hended, _, _, rfl, ?_, ⟨_, rfl⟩, hW, hsame.mono (by decide) (by decide)⟩
  · show Steps p.tables e below (T52.setTop (mkF m 9 #[.val (.ref a0), .val (.ref a1)] [])) _
    exact X52.returnOut hx Bd.returns (hb hby d1_9) hr
  · show Q1 Z a0 a1 kc c0 c1 cs h0 n0 _ T52.heap _
    exact ⟨rfl, N52, K52⟩
theorem d11_0 : decode jdk_42_method_151_code 0 = .ok (.aload_n 0, 1) := by decide +kernel
theorem d11_1 : decode jdk_42_method_151_code 1 = .ok (.invokespecial 1, 3) := by decide +kernel
theorem d11_4 : decode jdk_42_method_151_code 4 = .ok (.aload_n 0, 1) := by decide +kernel
theorem d11_5 : decode jdk_42_method_151_code 5 = .ok (.aload_n 1, 1) := by decide +kernel
theorem d11_6 : decode jdk_42_method_151_code 6 = .ok (.putfield 9, 3) := by decide +kernel
theorem d11_9 : decode jdk_42_method_151_code 9 = .ok (.aload_n 0, 1) := by decide +kernel
theorem d11_10 : decode jdk_42_method_151_code 10 = .ok (.iload_n 2, 1) := by decide +kernel
theorem d11_11 : decode jdk_42_method_151_code 11 = .ok (.putfield 15, 3) := by decide +kernel
theorem d11_14 : decode jdk_42_method_151_code 14 = .ok (.return_, 1) := by decide +kernel
theorem ef_11 (m : MethodId) (x0 : Addr) (x1 : Addr) (x2 : Int32) : entryFrame m #[(.ref x0), (.ref x1), (.int x2)] 3 = mkF m 0 #[.val (.ref x0), .val (.ref x1), .val (.int x2)] [] := by first | (simp [entryFrame, mkF, argsToLocals, Value.category]; done) | rfl
def Q11 (Z : State) (a0 : Addr) (a1 : Addr) (p2 : Int32) (h0 : Heap) (n0 : Nat) (v : Option Value) (h : Heap) (L : List Loc) : Prop := v = none ∧ Fr n0 L ∧ Keep h0 h [a0]
set_option maxRecDepth 65536 in
set_option maxHeartbeats 40000000 in
theorem rm11 (l : Launch) (Z : State) (aZ : Array Value) (hw : ∀ d ∈ tables_1, d.before aZ Z = true) (ws : List Jvm.Cond) (a0 : Addr) (a1 : Addr) (p2 : Int32)  (h0 : Heap) (n0 : Nat) (Z0 : n0 ≤ h0.size) (F_value : Fld Z h0 a0 "java/lang/String" "value" "[B" .null) (F_coder : Fld Z h0 a0 "java/lang/String" "coder" "B" (.int (0 : Int32))) (E_o : Exa Z h0 a0 "java/lang/String") (g_a0 : n0 ≤ a0) :
    MetFree l (⟨"java/lang/String", "<init>", "([BB)V"⟩ : MethodName) (head1 (Jvm.Cond.code (⟨"java/lang/String", "<init>", "([BB)V"⟩ : MethodName) jdk_42_method_151_code 3 none :: ws) ({ frames := 1, cells := 0, slots := 0, locals := 12 } : Room)) (fun a U => a = #[(.ref a0), (.ref a1), (.int p2)] ∧ Z.Warmed39 U.vm ∧ U.heap = h0) (fun _ _ _ _ _ => True) (fun _ U oc U' => ∃ v L, oc = .returned v ∧ Q11 Z a0 a1 p2 h0 n0 v U'.heap L ∧ FrameEnd U oc U' L ({ frames := 1, cells := 0, slots := 0, locals := 12 } : Room).cells ({ frames := 1, cells := 0, slots := 0, locals := 12 } : Room).slots) := by
  refine MetFree.of_bodySF (plainFor_of_name pn_2) hisR ?_
  intro p e s m args below meth c s₁ Bd hml0 hP hK
  obtain ⟨rfl, hZ, hh⟩ := hP
  have hx := Bd.exec
  have hby := Bd.bytes
  have hml : c.maxLocals = 3 := hml0
  have hown : s.vm.findClass "java/lang/String" = some m.cls := findClass_of_methodNamed Bd.named
  have hnm := (name_of_methodNamed Bd.named Bd.method).1
  have X0 : Stand p l e ({ frames := 1, cells := 0, slots := 0, locals := 12 } : Room) s m #[(.ref a0), (.ref a1), (.int p2)] below meth c s₁ [] 0 0 := Stand.of_body Bd
  have e0 : s₁.heap = h0 := by rw [← hh, Bd.state]; rfl
  have N0 := Fr.nil n0
  have pre0 : ∀ t, Steps p.tables e below (s₁.setTop (mkF m 0 #[.val (.ref a0), .val (.ref a1), .val (.int p2)] [])) t → Steps p.tables e below (s₁.setTop (entryFrame m #[(.ref a0), (.ref a1), (.int p2)] 3)) t := fun t kt => castTop (ef_11 m a0 a1 p2) kt
  have pre54 : ∀ t, Steps p.tables e below (s₁.setTop (mkF m 1 #[.val (.ref a0), .val (.ref a1), .val (.int p2)] [(.ref a0)])) t → Steps p.tables e below (s₁.setTop (entryFrame m #[(.ref a0), (.ref a1), (.int p2)] 3)) t := fun t kt => by
    refine pre0 _ ?_
    show Steps p.tables e below (s₁.setTop (mkF m 0 #[.val (.ref a0), .val (.ref a1), .val (.int p2)] [])) _
    refine XS.aloadN X0.here hx rfl (hb hby d11_0) rfl rfl ?_
    show Steps p.tables e below (s₁.setTop (mkF m 1 #[.val (.ref a0), .val (.ref a1), .val (.int p2)] [(.ref a0)])) _
    exact kt
  obtain ⟨T55, X55, e55, st55⟩ := initO X0 hx hZ hown (hw _ (List.mem_of_getElem? (i := 14) rfl)) (hw _ (List.mem_of_getElem? (i := 15) rfl)) (hw _ (List.mem_of_getElem? (i := 16) rfl)) e0 (g := (mkF m 1 #[.val (.ref a0), .val (.ref a1), .val (.int p2)] [(.ref a0)])) rfl (by rw [hml]; rfl) rfl (hb hby d11_1) (by decide) (W := 0) (by show 2 * 0 + _ ≤ _; exact Nat.le_of_eq rfl) (by decide)
  have pre55 : ∀ t, Steps p.tables e below (T55.setTop (mkF m 4 #[.val (.ref a0), .val (.ref a1), .val (.int p2)] [])) t → Steps p.tables e below (s₁.setTop (entryFrame m #[(.ref a0), (.ref a1), (.int p2)] 3)) t := fun t kt => pre54 _ (st55 t kt)
  have pre56 : ∀ t, Steps p.tables e below (T55.setTop (mkF m 6 #[.val (.ref a0), .val (.ref a1), .val (.int p2)] [(.ref a1), (.ref a0)])) t → Steps p.tables e below (s₁.setTop (entryFrame m #[(.ref a0), (.ref a1), (.int p2)] 3)) t := fun t kt => by
    refine pre55 _ ?_
    show Steps p.tables e below (T55.setTop (mkF m 4 #[.val (.ref a0), .val (.ref a1), .val (.int p2)] [])) _
    refine XS.aloadN X55.here hx rfl (hb hby d11_4) rfl rfl ?_
    show Steps p.tables e below (T55.setTop (mkF m 5 #[.val (.ref a0), .val (.ref a1), .val (.int p2)] [(.ref a0)])) _
    refine XS.aloadN X55.here hx rfl (hb hby d11_5) rfl rfl ?_
    show Steps p.tables e below (T55.setTop (mkF m 6 #[.val (.ref a0), .val (.ref a1), .val (.int p2)] [(.ref a1), (.ref a0)])) _
    exact kt
  obtain ⟨T57, h57, X57, e57, W57, st57⟩ := putF X55 hx hZ hown (host := "") (Or.inl (hw _ (List.mem_of_getElem? (i := 31) rfl))) Via.refl e55 F_value E_o (Or.inr ⟨(hw _ (List.mem_of_getElem? (i := 32) rfl)), rfl, hnm⟩) (hw _ (List.mem_of_getElem? (i := 5) rfl)) (ty := (.array .byte)) (by decide) rfl rfl (g := (mkF m 6 #[.val (.ref a0), .val (.ref a1), .val (.int p2)] [(.ref a1), (.ref a0)])) rfl rfl (hb hby d11_6)
  have F57_0 := E_o.wr W57
  have F57_1 := F_value.same W57
  have F57_2 := F_coder.other W57 (Or.inr (slot_ne (Or.inr (hw _ (List.mem_of_getElem? (i := 30) rfl))) (Or.inr (hw _ (List.mem_of_getElem? (i := 32) rfl))) (by decide) (t := .byte) (t' := (.array .byte)) (by decide) (by decide)))
  have Zs57 : n0 ≤ h57.size := Nat.le_trans Z0 (Keep.of_wr W57).1
  have K0 := Keep.refl h0 [a0]
  have K57 := K0.wr W57 (Or.inl (List.mem_of_getElem? (i := 0) rfl))
  have N57 := Fr.snoc X57 N0 g_a0
  have pre57 : ∀ t, Steps p.tables e below (T57.setTop (mkF m 9 #[.val (.ref a0), .val (.ref a1), .val (.int p2)] [])) t → Steps p.tables e below (s₁.setTop (entryFrame m #[(.ref a0), (.ref a1), (.int p2)] 3)) t := fun t kt => pre56 _ (st57 t kt)
  have pre58 : ∀ t, Steps p.tables e below (T57.setTop (mkF m 11 #[.val (.ref a0), .val (.ref a1), .val (.int p2)] [(.int p2), (.ref a0)])) t → Steps p.tables e below (s₁.setTop (entryFrame m #[(.ref a0), (.ref a1), (.int p2)] 3)) t := fun t kt => by
    refine pre57 _ ?_
    show Steps p.tables e below (T57.setTop (mkF m 9 #[.val (.ref a0), .val (.ref a1), .val (.int p2)] [])) _
    refine XS.aloadN X57.here hx rfl (hb hby d11_9) rfl rfl ?_
    show Steps p.tables e below (T57.setTop (mkF m 10 #[.val (.ref a0), .val (.ref a1), .val (.int p2)] [(.ref a0)])) _
    refine XS.iloadN X57.here hx rfl (hb hby d11_10) rfl ?_
    show Steps p.tables e below (T57.setTop (mkF m 11 #[.val (.ref a0), .val (.ref a1), .val (.int p2)] [(.int p2), (.ref a0)])) _
    exact kt
  obtain ⟨T59, h59, X59, e59, W59, st59⟩ := putFN X57 hx hZ hown (hw _ (List.mem_of_getElem? (i := 29) rfl)) Via.refl e57 F57_2 F57_0 (Or.inr ⟨(hw _ (List.mem_of_getElem? (i := 30) rfl)), rfl, hnm⟩) (hw _ (List.mem_of_getElem? (i := 5) rfl)) (ty := .byte) (v' := (.int (nar .byte p2))) (by decide) rfl (fits_nar_byte _) (g := (mkF m 11 #[.val (.ref a0), .val (.ref a1), .val (.int p2)] [(.int p2), (.ref a0)])) rfl rfl (hb hby d11_11)
  have F59_0 := F57_0.wr W59
  have F59_1 := F57_1.other W59 (Or.inr (slot_ne (Or.inr (hw _ (List.mem_of_getElem? (i := 32) rfl))) (Or.inr (hw _ (List.mem_of_getElem? (i := 30) rfl))) (by decide) (t := (.array .byte)) (t' := .byte) (by decide) (by decide)))
  have F59_2 := F57_2.same W59
  have Zs59 : n0 ≤ h59.size := Nat.le_trans Zs57 (Keep.of_wr W59).1
  have K59 := K57.wr W59 (Or.inl (List.mem_of_getElem? (i := 0) rfl))
  have N59 := Fr.snoc X59 N57 g_a0
  have pre59 : ∀ t, Steps p.tables e below (T59.setTop (mkF m 14 #[.val (.ref a0), .val (.ref a1), .val (.int p2)] [])) t → Steps p.tables e below (s₁.setTop (entryFrame m #[(.ref a0), (.ref a1), (.int p2)] 3)) t := fun t kt => pre58 _ (st59 t kt)
  obtain ⟨fs, hr, hrun, hended, hW, hsame⟩ := X59.leave (v := none) (fun _ => rfl)
  refine ⟨_, _, pre59 _ ?_, hrun, hended, _, _, rfl, ?_, ⟨_, rfl⟩, hW, hsame.mono (by decide) (by decide)⟩
  · show Steps p.tables e below (T59.setTop (mkF m 14 #[.val (.ref a0), .val (.ref a1), .val (.int p2)] [])) _
    exact X59.returnOut hx Bd.returns (hb hby d11_14) hr
  · show Q11 Z a0 a1 p2 h0 n0 _ T59.heap _
    rw [e59]
    exact ⟨rfl, N59, K59⟩
theorem d9_0 : decode jdk_43_method_3_code 0 = .ok (.iload_n 0, 1) := by decide +kernel
theorem d9_1 : decode jdk_43_method_3_code 1 = .ok (.sipush 255, 3) := by decide +kernel
theorem d9_4 : decode jdk_43_method_3_code 4 = .ok (.if_icmp .gt 7, 3) := by decide +kernel
theorem d9_7 : decode jdk_43_method_3_code 7 = .ok (.iconst 1, 1) := by decide +kernel
theorem d9_8 : decode jdk_43_method_3_code 8 = .ok (.goto 4, 3) := by decide +kernel
theorem d9_11 : decode jdk_43_method_3_code 11 = .ok (.iconst 0, 1) := by decide +kernel
theorem d9_12 : decode jdk_43_method_3_code 12 = .ok (.ireturn, 1) := by decide +kernel
theorem pn_9 : plainName "java/lang/StringLatin1" = true := by first | (simp [plainName, overriddenIn]; done) | decide +kernel
theorem ef_9 (m : MethodId) (x0 : Int32) : entryFrame m #[(.int x0)] 1 = mkF m 0 #[.val (.int x0)] [] := by first | (simp [entryFrame, mkF, argsToLocals, Value.category]; done) | rfl
def own_can (p0 : Int32) : Int32 := if (255 : Int32) < p0 then (0 : Int32) else (1 : Int32)
def Q9 (p0 : Int32) (h0 : Heap) (n0 : Nat) (v : Option Value) (h : Heap) (L : List Loc) : Prop := v = some (.int (own_can p0)) ∧ Fr n0 L ∧ h = h0
set_option maxRecDepth 65536 in
set_option maxHeartbeats 40000000 in
theorem rm9 (l : Launch) (Z : State) (aZ : Array Value) (hw : ∀ d ∈ tables_1, d.before aZ Z = true) (ws : List Jvm.Cond) (p0 : Int32)  (h0 : Heap) (n0 : Nat) (Z0 : n0 ≤ h0.size)  :
    MetFree l (⟨"java/lang/StringLatin1", "canEncode", "(C)Z"⟩ : MethodName) (head1 (Jvm.Cond.code (⟨"java/lang/StringLatin1", "canEncode", "(C)Z"⟩ : MethodName) jdk_43_method_3_code 1 (some .boolean) :: ws) ({ frames := 0, cells := 0, slots := 0, locals := 0 } : Room)) (fun a U => a = #[(.int p0)] ∧ Z.Warmed39 U.vm ∧ U.heap = h0) (fun _ _ _ _ _ => True) (fun _ U oc U' => ∃ v L, oc = .returned v ∧ Q9 p0 h0 n0 v U'.heap L ∧ FrameEnd U oc U' L ({ frames := 0, cells := 0, slots := 0, locals := 0 } : Room).cells ({ frames := 0, cells := 0, slots := 0, locals := 0 } : Room).slots) := by
  refine MetFree.of_bodySF (plainFor_of_name pn_9) hisR ?_
  intro p e s m args below meth c s₁ Bd hml0 hP hK
  obtain ⟨rfl, hZ, hh⟩ := hP
  have hx := Bd.exec
  have hby := Bd.bytes
  have hml : c.maxLocals = 1 := hml0
  have hown : s.vm.findClass "java/lang/StringLatin1" = some m.cls := findClass_of_methodNamed Bd.named
  have hnm := (name_of_methodNamed Bd.named Bd.method).1
  have X0 : Stand p l e ({ frames := 0, cells := 0, slots := 0, locals := 0 } : Room) s m #[(.int p0)] below meth c s₁ [] 0 0 := Stand.of_body Bd
  have e0 : s₁.heap = h0 := by rw [← hh, Bd.state]; rfl
  have N0 := Fr.nil n0
  have pre0 : ∀ t, Steps p.tables e below (s₁.setTop (mkF m 0 #[.val (.int p0)] [])) t → Steps p.tables e below (s₁.setTop (entryFrame m #[(.int p0)] 1)) t := fun t kt => castTop (ef_9 m p0) kt
  obtain ⟨fs, hr, hrun, hended, hW, hsame⟩ := X0.leave (v := some (.int (own_can p0))) (fun h => by rw [Bd.returns] at h; cases h)
  refine ⟨_, _, pre0 _ ?_, hrun, hended, _, _, rfl, ?_, ⟨_, rfl⟩, hW, hsame.mono (by decide) (by decide)⟩
  · show Steps p.tables e below (s₁.setTop (mkF m 0 #[.val (.int p0)] [])) _
    refine XS.iloadN X0.here hx rfl (hb hby d9_0) rfl ?_
    show Steps p.tables e below (s₁.setTop (mkF m 1 #[.val (.int p0)] [(.int p0)])) _
    refine XS.sipush X0.here hx rfl (hb hby d9_1) ?_
    show Steps p.tables e below (s₁.setTop (mkF m 4 #[.val (.int p0)] [(.int (255 : Int32)), (.int p0)])) _
    by_cases c62 : (255 : Int32) < p0
    · refine XS.icmpYes X0.here hx rfl (pc0 := 4) (pc' := 11) rfl (hb hby d9_4) rfl (tlt c62).2.2.1 (by decide) (by decide) ?_
      show Steps p.tables e below (s₁.setTop (mkF m 11 #[.val (.int p0)] [])) _
      refine XS.iconst X0.here hx rfl (hb hby d9_11) ?_
      show Steps p.tables e below (s₁.setTop (mkF m 12 #[.val (.int p0)] [(.int (0 : Int32))])) _
      have hv : own_can p0 = (0 : Int32) := by unfold own_can; rw [if_pos c62]
      rw [hv] at hr
      exact retN X0 hx (t := .boolean) Bd.returns (by simp) (hb hby d9_12) hr
    · refine XS.icmpNo X0.here hx rfl (hb hby d9_4) rfl (flt c62).2.2.1 ?_
      show Steps p.tables e below (s₁.setTop (mkF m 7 #[.val (.int p0)] [])) _
      refine XS.iconst X0.here hx rfl (hb hby d9_7) ?_
      show Steps p.tables e below (s₁.setTop (mkF m 8 #[.val (.int p0)] [(.int (1 : Int32))])) _
      refine XS.goto X0.here hx rfl (pc0 := 8) (pc' := 12) rfl (hb hby d9_8) (by decide) (by decide) ?_
      show Steps p.tables e below (s₁.setTop (mkF m 12 #[.val (.int p0)] [(.int (1 : Int32))])) _
      have hv : own_can p0 = (1 : Int32) := by unfold own_can; rw [if_neg c62]
      rw [hv] at hr
      exact retN X0 hx (t := .boolean) Bd.returns (by simp) (hb hby d9_12) hr
  · show Q9 p0 h0 n0 _ s₁.heap _
    rw [e0]
    exact ⟨rfl, N0, rfl⟩
theorem d10_0 : decode jdk_43_method_46_code 0 = .ok (.iconst 1, 1) := by decide +kernel
theorem d10_1 : decode jdk_43_method_46_code 1 = .ok (.newarray .byte, 2) := by decide +kernel
theorem d10_3 : decode jdk_43_method_46_code 3 = .ok (.dup, 1) := by decide +kernel
theorem d10_4 : decode jdk_43_method_46_code 4 = .ok (.iconst 0, 1) := by decide +kernel
theorem d10_5 : decode jdk_43_method_46_code 5 = .ok (.iload_n 0, 1) := by decide +kernel
theorem d10_6 : decode jdk_43_method_46_code 6 = .ok (.i2b, 1) := by decide +kernel
theorem d10_7 : decode jdk_43_method_46_code 7 = .ok (.bastore, 1) := by decide +kernel
theorem d10_8 : decode jdk_43_method_46_code 8 = .ok (.areturn, 1) := by decide +kernel
theorem ef_10 (m : MethodId) (x0 : Int32) : entryFrame m #[(.int x0)] 1 = mkF m 0 #[.val (.int x0)] [] := by first | (simp [entryFrame, mkF, argsToLocals, Value.category]; done) | rfl
def Q10 (Z : State) (p0 : Int32) (h0 : Heap) (n0 : Nat) (v : Option Value) (h : Heap) (L : List Loc) : Prop := ∃ (rb : Addr), v = some (.ref rb) ∧ Fr n0 L ∧ Keep h0 h [] ∧ h0.size ≤ rb
set_option maxRecDepth 65536 in
set_option maxHeartbeats 40000000 in
theorem rm10 (l : Launch) (Z : State) (aZ : Array Value) (hw : ∀ d ∈ tables_1, d.before aZ Z = true) (ws : List Jvm.Cond) (p0 : Int32)  (h0 : Heap) (n0 : Nat) (Z0 : n0 ≤ h0.size)  :
    MetFree l (⟨"java/lang/StringLatin1", "toBytes", "(C)[B"⟩ : MethodName) (head1 (Jvm.Cond.code (⟨"java/lang/StringLatin1", "toBytes", "(C)[B"⟩ : MethodName) jdk_43_method_46_code 1 (some (.array .byte)) :: ws) ({ frames := 0, cells := 1, slots := 1, locals := 0 } : Room)) (fun a U => a = #[(.int p0)] ∧ Z.Warmed39 U.vm ∧ U.heap = h0) (fun _ _ _ _ _ => True) (fun _ U oc U' => ∃ v L, oc = .returned v ∧ Q10 Z p0 h0 n0 v U'.heap L ∧ FrameEnd U oc U' L ({ frames := 0, cells := 1, slots := 1, locals := 0 } : Room).cells ({ frames := 0, cells := 1, slots := 1, locals := 0 } : Room).slots) := by
  refine MetFree.of_bodySF (plainFor_of_name pn_9) hisR ?_
  intro p e s m args below meth c s₁ Bd hml0 hP hK
  obtain ⟨rfl, hZ, hh⟩ := hP
  have hx := Bd.exec
  have hby := Bd.bytes
  have hml : c.maxLocals = 1 := hml0
  have hown : s.vm.findClass "java/lang/StringLatin1" = some m.cls := findClass_of_methodNamed Bd.named
  have hnm := (name_of_methodNamed Bd.named Bd.method).1
  have X0 : Stand p l e ({ frames := 0, cells := 1, slots := 1, locals := 0 } : Room) s m #[(.int p0)] below meth c s₁ [] 0 0 := Stand.of_body Bd
  have e0 : s₁.heap = h0 := by rw [← hh, Bd.state]; rfl
  have N0 := Fr.nil n0
  have pre0 : ∀ t, Steps p.tables e below (s₁.setTop (mkF m 0 #[.val (.int p0)] [])) t → Steps p.tables e below (s₁.setTop (entryFrame m #[(.int p0)] 1)) t := fun t kt => castTop (ef_10 m p0) kt
  have pre63 : ∀ t, Steps p.tables e below (s₁.setTop (mkF m 1 #[.val (.int p0)] [(.int (1 : Int32))])) t → Steps p.tables e below (s₁.setTop (entryFrame m #[(.int p0)] 1)) t := fun t kt => by
    refine pre0 _ ?_
    show Steps p.tables e below (s₁.setTop (mkF m 0 #[.val (.int p0)] [])) _
    refine XS.iconst X0.here hx rfl (hb hby d10_0) ?_
    show Steps p.tables e below (s₁.setTop (mkF m 1 #[.val (.int p0)] [(.int (1 : Int32))])) _
    exact kt
  obtain ⟨T64, h64, k64, X64, e64, E64, A64, st64⟩ := newP X0 hx hZ (hw _ (List.mem_of_getElem? (i := 22) rfl)) e0 (g := (mkF m 1 #[.val (.int p0)] [(.int (1 : Int32))])) rfl (hb hby d10_1) rfl (by decide) (cap := 1) (by decide) (by decide) (by decide) (by decide)
  obtain ⟨b64, g64⟩ : ∃ z, z = h0.size := ⟨_, rfl⟩
  have g_b64 : n0 ≤ b64 := Nat.le_trans Z0 (Nat.le_of_eq g64.symm)
  have sz_b64 : h0.size ≤ b64 := Nat.le_of_eq g64.symm
  rw [← g64] at A64 st64
  have Zs64 : n0 ≤ h64.size := Nat.le_trans Z0 E64.1
  have K0 := Keep.refl h0 []
  have K64 := K0.ext E64
  have V_b64 : Arv Z h64 b64 k64 .byte (1 : Int32) [(.int (0 : Int32))] (.int (0 : Int32)) := (Arv.new A64 (by decide)).pad (pad_rep [] (.int (0 : Int32)) 1)
  have pre64 : ∀ t, Steps p.tables e below (T64.setTop (mkF m 3 #[.val (.int p0)] [(.ref b64)])) t → Steps p.tables e below (s₁.setTop (entryFrame m #[(.int p0)] 1)) t := fun t kt => pre63 _ (st64 t kt)
  have pre65 : ∀ t, Steps p.tables e below (T64.setTop (mkF m 7 #[.val (.int p0)] [(.int (p0.toInt8.toInt32)), (.int (0 : Int32)), (.ref b64), (.ref b64)])) t → Steps p.tables e below (s₁.setTop (entryFrame m #[(.int p0)] 1)) t := fun t kt => by
    refine pre64 _ ?_
    show Steps p.tables e below (T64.setTop (mkF m 3 #[.val (.int p0)] [(.ref b64)])) _
    refine XS.dup X64.here hx rfl (hb hby d10_3) rfl rfl ?_
    show Steps p.tables e below (T64.setTop (mkF m 4 #[.val (.int p0)] [(.ref b64), (.ref b64)])) _
    refine XS.iconst X64.here hx rfl (hb hby d10_4) ?_
    show Steps p.tables e below (T64.setTop (mkF m 5 #[.val (.int p0)] [(.int (0 : Int32)), (.ref b64), (.ref b64)])) _
    refine XS.iloadN X64.here hx rfl (hb hby d10_5) rfl ?_
    show Steps p.tables e below (T64.setTop (mkF m 6 #[.val (.int p0)] [(.int p0), (.int (0 : Int32)), (.ref b64), (.ref b64)])) _
    refine XS.i2b X64.here hx rfl (hb hby d10_6) rfl ?_
    show Steps p.tables e below (T64.setTop (mkF m 7 #[.val (.int p0)] [(.int (p0.toInt8.toInt32)), (.int (0 : Int32)), (.ref b64), (.ref b64)])) _
    exact kt
  have Vo_b64_66 := V_b64
  obtain ⟨cl_b64_66, Ar_b64_66, q_b64_66, S_b64_66, M_b64_66, H_b64_66, G_b64_66⟩ := Vo_b64_66
  have hin66 : ¬ ((0 : Int32) < 0 ∨ cl_b64_66.slots.size ≤ ((0 : Int32)).toNatClampNeg) := inb_of S_b64_66 ⟨by decide, by decide⟩
  obtain ⟨T66, h66, X66, e66, W66, st66⟩ := stB X64 hx hZ e64 Ar_b64_66 (j := (0 : Int32)) hin66 (g := (mkF m 7 #[.val (.int p0)] [(.int (p0.toInt8.toInt32)), (.int (0 : Int32)), (.ref b64), (.ref b64)])) rfl rfl (hb hby d10_7)
  have V66_b64 : Arv Z h66 b64 k64 .byte (1 : Int32) [(.int (nar .byte (p0.toInt8.toInt32)))] (.int (0 : Int32)) := Arv.set Ar_b64_66 q_b64_66 S_b64_66 M_b64_66 H_b64_66 G_b64_66 (fits_nar_byte _) W66 0 rfl (Nat.le_of_ble_eq_true rfl)
  have F66_0 := V66_b64
  have Zs66 : n0 ≤ h66.size := Nat.le_trans Zs64 (Keep.of_wr W66).1
  have K66 := K64.wr W66 (Or.inr sz_b64)
  have N66 := Fr.snoc X66 N0 g_b64
  have pre66 : ∀ t, Steps p.tables e below (T66.setTop (mkF m 8 #[.val (.int p0)] [(.ref b64)])) t → Steps p.tables e below (s₁.setTop (entryFrame m #[(.int p0)] 1)) t := fun t kt => pre65 _ (st66 t kt)
  obtain ⟨fs, hr, hrun, hended, hW, hsame⟩ := X66.leave (v := some (.ref b64)) (fun h => by rw [Bd.returns] at h; cases h)
  refine ⟨_, _, pre66 _ ?_, hrun, hended, _, _, rfl, ?_, ⟨_, rfl⟩, hW, hsame.mono (by decide) (by decide)⟩
  · show Steps p.tables e below (T66.setTop (mkF m 8 #[.val (.int p0)] [(.ref b64)])) _
    jvm_step X66.here [X66.here.top, hx, (hb hby d10_8), X66.method', Bd.returns, Value.isRef, FieldType.isReference]
    first | (intro acts; rw [hr _ acts rfl rfl rfl]) | rw [hr _ _ rfl rfl rfl]
    exact Steps.refl _
  · show Q10 Z p0 h0 n0 _ T66.heap _
    rw [e66]
    exact ⟨b64, rfl, N66, K66, sz_b64⟩
theorem d8_0 : decode jdk_42_method_139_code 0 = .ok (.getstatic 38, 3) := by decide +kernel
theorem d8_3 : decode jdk_42_method_139_code 3 = .ok (.ifCond .eq 23, 3) := by decide +kernel
theorem d8_6 : decode jdk_42_method_139_code 6 = .ok (.iload_n 0, 1) := by decide +kernel
theorem d8_7 : decode jdk_42_method_139_code 7 = .ok (.invokestatic 1015, 3) := by decide +kernel
theorem d8_10 : decode jdk_42_method_139_code 10 = .ok (.ifCond .eq 16, 3) := by decide +kernel
theorem d8_13 : decode jdk_42_method_139_code 13 = .ok (.new 10, 3) := by decide +kernel
theorem d8_16 : decode jdk_42_method_139_code 16 = .ok (.dup, 1) := by decide +kernel
theorem d8_17 : decode jdk_42_method_139_code 17 = .ok (.iload_n 0, 1) := by decide +kernel
theorem d8_18 : decode jdk_42_method_139_code 18 = .ok (.invokestatic 1018, 3) := by decide +kernel
theorem d8_21 : decode jdk_42_method_139_code 21 = .ok (.iconst 0, 1) := by decide +kernel
theorem d8_22 : decode jdk_42_method_139_code 22 = .ok (.invokespecial 209, 3) := by decide +kernel
theorem d8_25 : decode jdk_42_method_139_code 25 = .ok (.areturn, 1) := by decide +kernel
theorem d8_26 : decode jdk_42_method_139_code 26 = .ok (.new 10, 3) := by decide +kernel
theorem d8_29 : decode jdk_42_method_139_code 29 = .ok (.dup, 1) := by decide +kernel
theorem d8_30 : decode jdk_42_method_139_code 30 = .ok (.iload_n 0, 1) := by decide +kernel
theorem d8_31 : decode jdk_42_method_139_code 31 = .ok (.invokestatic 1021, 3) := by decide +kernel
theorem d8_34 : decode jdk_42_method_139_code 34 = .ok (.iconst 1, 1) := by decide +kernel
theorem d8_35 : decode jdk_42_method_139_code 35 = .ok (.invokespecial 209, 3) := by decide +kernel
theorem d8_38 : decode jdk_42_method_139_code 38 = .ok (.areturn, 1) := by decide +kernel
theorem ef_8 (m : MethodId) (x0 : Int32) : entryFrame m #[(.int x0)] 1 = mkF m 0 #[.val (.int x0)] [] := by first | (simp [entryFrame, mkF, argsToLocals, Value.category]; done) | rfl
def Q8 (Z : State) (p0 : Int32) (cs : Int32) (h0 : Heap) (n0 : Nat) (v : Option Value) (h : Heap) (L : List Loc) : Prop := ∃ (rb : Addr), v = some (.ref rb) ∧ Fr n0 L ∧ Keep h0 h [] ∧ h0.size ≤ rb
set_option maxRecDepth 65536 in
set_option maxHeartbeats 40000000 in
theorem rm8 (l : Launch) (Z : State) (aZ : Array Value) (hw : ∀ d ∈ tables_1, d.before aZ Z = true) (ws : List Jvm.Cond) (p0 : Int32) (cs : Int32) (h0 : Heap) (n0 : Nat) (Z0 : n0 ≤ h0.size) (S_C : Sta Z h0 "java/lang/String" "COMPACT_STRINGS" "Z" (.int cs)) (hcs : ¬ cs = (0 : Int32)) (hp0 : ¬ (255 : Int32) < p0) :
    MetFree l (⟨"java/lang/String", "valueOf", "(C)Ljava/lang/String;"⟩ : MethodName) (head1 (Jvm.Cond.code (⟨"java/lang/String", "valueOf", "(C)Ljava/lang/String;"⟩ : MethodName) jdk_42_method_139_code 1 (some (.object "java/lang/String")) :: ws) ({ frames := 2, cells := 2, slots := 5, locals := 40 } : Room)) (fun a U => a = #[(.int p0)] ∧ Z.Warmed39 U.vm ∧ U.heap = h0) (fun _ _ _ _ _ => True) (fun _ U oc U' => ∃ v L, oc = .returned v ∧ Q8 Z p0 cs h0 n0 v U'.heap L ∧ FrameEnd U oc U' L ({ frames := 2, cells := 2, slots := 5, locals := 40 } : Room).cells ({ frames := 2, cells := 2, slots := 5, locals := 40 } : Room).slots) := by
  refine MetFree.of_bodySF (plainFor_of_name pn_2) hisR ?_
  intro p e s m args below meth c s₁ Bd hml0 hP hK
  obtain ⟨rfl, hZ, hh⟩ := hP
  have hx := Bd.exec
  have hby := Bd.bytes
  have hml : c.maxLocals = 1 := hml0
  have hown : s.vm.findClass "java/lang/String" = some m.cls := findClass_of_methodNamed Bd.named
  have hnm := (name_of_methodNamed Bd.named Bd.method).1
  have X0 : Stand p l e ({ frames := 2, cells := 2, slots := 5, locals := 40 } : Room) s m #[(.int p0)] below meth c s₁ [] 0 0 := Stand.of_body Bd
  have e0 : s₁.heap = h0 := by rw [← hh, Bd.state]; rfl
  have N0 := Fr.nil n0
  have pre0 : ∀ t, Steps p.tables e below (s₁.setTop (mkF m 0 #[.val (.int p0)] [])) t → Steps p.tables e below (s₁.setTop (entryFrame m #[(.int p0)] 1)) t := fun t kt => castTop (ef_8 m p0) kt
  obtain ⟨T69, X69, e69, st69⟩ := getS2 X0 hx hZ hown (host := "") (Or.inl (hw _ (List.mem_of_getElem? (i := 17) rfl))) Via.refl e0 S_C (g := (mkF m 0 #[.val (.int p0)] [])) rfl (hb hby d8_0)
  have pre69 : ∀ t, Steps p.tables e below (T69.setTop (mkF m 3 #[.val (.int p0)] [(.int cs)])) t → Steps p.tables e below (s₁.setTop (entryFrame m #[(.int p0)] 1)) t := fun t kt => pre0 _ (st69 t kt)
  have pre71 : ∀ t, Steps p.tables e below (T69.setTop (mkF m 6 #[.val (.int p0)] [])) t → Steps p.tables e below (s₁.setTop (entryFrame m #[(.int p0)] 1)) t := fun t kt => by
    refine pre69 _ ?_
    show Steps p.tables e below (T69.setTop (mkF m 3 #[.val (.int p0)] [(.int cs)])) _
    refine XS.ifNo X69.here hx rfl (hb hby d8_3) rfl ((if0 _ _).trans (feq hcs).1) ?_
    show Steps p.tables e below (T69.setTop (mkF m 6 #[.val (.int p0)] [])) _
    exact kt
  have pre72 : ∀ t, Steps p.tables e below (T69.setTop (mkF m 7 #[.val (.int p0)] [(.int p0)])) t → Steps p.tables e below (s₁.setTop (entryFrame m #[(.int p0)] 1)) t := fun t kt => by
    refine pre71 _ ?_
    show Steps p.tables e below (T69.setTop (mkF m 6 #[.val (.int p0)] [])) _
    refine XS.iloadN X69.here hx rfl (hb hby d8_6) rfl ?_
    show Steps p.tables e below (T69.setTop (mkF m 7 #[.val (.int p0)] [(.int p0)])) _
    exact kt
  obtain ⟨v73, _, ⟨T73, L73, k73, n73⟩, -, X73, ⟨Lc73, hQ73, l73, y73, z73⟩, st73⟩ := Jvm.LawKit.callS X69 hx (y := (⟨"java/lang/StringLatin1", "canEncode", "(C)Z"⟩ : MethodName)) hown (mvT hZ (hw _ (List.mem_of_getElem? (i := 42) rfl))) (mvT hZ (hw _ (List.mem_of_getElem? (i := 43) rfl))) (mvT hZ (hw _ (List.mem_of_getElem? (i := 44) rfl))) (mvT hZ (hw _ (List.mem_of_getElem? (i := 45) rfl))) (by decide) (backOf (W := 0) (rm9 l Z aZ hw [] p0  h0 n0 Z0 ) hZ (hw _ (List.mem_of_getElem? (i := 45) rfl)) (hw _ (List.mem_of_getElem? (i := 44) rfl)) (by decide) (by decide)) (g := (mkF m 7 #[.val (.int p0)] [(.int p0)])) rfl (by rw [hml]; rfl) (argsL := [(.int p0)]) (rest := []) (lenOf pd_8 rfl) rfl (by show 2 * 0 + _ ≤ _; exact Nat.le_of_eq rfl) (hb hby d8_7) (fun _ _ => ⟨rfl, e69, (by decide : 0 + 0 ≤ _), (by decide : 0 + 0 ≤ _)⟩)
  dsimp only [Pt.U, Pt.locs, Pt.cells, Pt.slots] at X73 l73 y73 z73 st73 hQ73
  rw [l73, y73, z73] at X73
  clear l73 y73 z73
  obtain ⟨vq73, N73q, e73⟩ := hQ73
  rw [vq73] at st73
  have N73 := Fr.app N0 N73q
  have pre73 : ∀ t, Steps p.tables e below (T73.setTop (mkF m 10 #[.val (.int p0)] [(.int (own_can p0))])) t → Steps p.tables e below (s₁.setTop (entryFrame m #[(.int p0)] 1)) t := fun t kt => pre72 _ (st73 t kt)
  have pre75 : ∀ t, Steps p.tables e below (T73.setTop (mkF m 13 #[.val (.int p0)] [])) t → Steps p.tables e below (s₁.setTop (entryFrame m #[(.int p0)] 1)) t := fun t kt => by
    refine pre73 _ ?_
    show Steps p.tables e below (T73.setTop (mkF m 10 #[.val (.int p0)] [(.int (own_can p0))])) _
    refine XS.ifNo X73.here hx rfl (hb hby d8_10) rfl ((if0 _ _).trans (feq (by unfold own_can; rw [if_neg hp0]; decide)).1) ?_
    show Steps p.tables e below (T73.setTop (mkF m 13 #[.val (.int p0)] [])) _
    exact kt
  obtain ⟨T77, h77, X77, e77, E77, A77, D77, -, st77⟩ := newO X73 hx hZ hown (hw _ (List.mem_of_getElem? (i := 46) rfl)) (hw _ (List.mem_of_getElem? (i := 5) rfl)) (hw _ (List.mem_of_getElem? (i := 6) rfl)) e73 (g := (mkF m 13 #[.val (.int p0)] [])) rfl (hb hby d8_13) (by decide) (by decide)
  obtain ⟨b77, g77⟩ : ∃ z, z = h0.size := ⟨_, rfl⟩
  have g_b77 : n0 ≤ b77 := Nat.le_trans Z0 (Nat.le_of_eq g77.symm)
  have sz_b77 : h0.size ≤ b77 := Nat.le_of_eq g77.symm
  rw [← g77] at A77 D77 st77
  have F77_0 := S_C.ext E77
  have Zs77 : n0 ≤ h77.size := Nat.le_trans Z0 E77.1
  have K0 := Keep.refl h0 []
  have K77 := K0.ext E77
  have F_coder_b77 : Fld Z h77 b77 "java/lang/String" "coder" "B" (.int (0 : Int32)) := D77 (Or.inr (hw _ (List.mem_of_getElem? (i := 30) rfl))) (ty := .byte) (by decide)
  have F_value_b77 : Fld Z h77 b77 "java/lang/String" "value" "[B" .null := D77 (Or.inr (hw _ (List.mem_of_getElem? (i := 32) rfl))) (ty := (.array .byte)) (by decide)
  have pre77 : ∀ t, Steps p.tables e below (T77.setTop (mkF m 16 #[.val (.int p0)] [(.ref b77)])) t → Steps p.tables e below (s₁.setTop (entryFrame m #[(.int p0)] 1)) t := fun t kt => pre75 _ (st77 t kt)
  have pre78 : ∀ t, Steps p.tables e below (T77.setTop (mkF m 18 #[.val (.int p0)] [(.int p0), (.ref b77), (.ref b77)])) t → Steps p.tables e below (s₁.setTop (entryFrame m #[(.int p0)] 1)) t := fun t kt => by
    refine pre77 _ ?_
    show Steps p.tables e below (T77.setTop (mkF m 16 #[.val (.int p0)] [(.ref b77)])) _
    refine XS.dup X77.here hx rfl (hb hby d8_16) rfl rfl ?_
    show Steps p.tables e below (T77.setTop (mkF m 17 #[.val (.int p0)] [(.ref b77), (.ref b77)])) _
    refine XS.iloadN X77.here hx rfl (hb hby d8_17) rfl ?_
    show Steps p.tables e below (T77.setTop (mkF m 18 #[.val (.int p0)] [(.int p0), (.ref b77), (.ref b77)])) _
    exact kt
  obtain ⟨v79, _, ⟨T79, L79, k79, n79⟩, -, X79, ⟨Lc79, hQ79, l79, y79, z79⟩, st79⟩ := Jvm.LawKit.callS X77 hx (y := (⟨"java/lang/StringLatin1", "toBytes", "(C)[B"⟩ : MethodName)) hown (mvT hZ (hw _ (List.mem_of_getElem? (i := 47) rfl))) (mvT hZ (hw _ (List.mem_of_getElem? (i := 48) rfl))) (mvT hZ (hw _ (List.mem_of_getElem? (i := 44) rfl))) (mvT hZ (hw _ (List.mem_of_getElem? (i := 49) rfl))) (by decide) (backOf (W := 2) (rm10 l Z aZ hw [] p0  h77 n0 Zs77 ) hZ (hw _ (List.mem_of_getElem? (i := 49) rfl)) (hw _ (List.mem_of_getElem? (i := 44) rfl)) (by decide) (by decide)) (g := (mkF m 18 #[.val (.int p0)] [(.int p0), (.ref b77), (.ref b77)])) rfl (by rw [hml]; rfl) (argsL := [(.int p0)]) (rest := [(.ref b77), (.ref b77)]) (lenOf pd_9 rfl) rfl (by show 2 * 0 + _ ≤ _; exact Nat.le_of_eq rfl) (hb hby d8_18) (fun _ _ => ⟨rfl, e77, (by decide : 1 + 1 ≤ _), (by decide : 4 + 1 ≤ _)⟩)
  dsimp only [Pt.U, Pt.locs, Pt.cells, Pt.slots] at X79 l79 y79 z79 st79 hQ79
  rw [l79, y79, z79] at X79
  clear l79 y79 z79
  obtain ⟨rb79, vq79, N79q, Kc79, sq79⟩ := hQ79
  rw [vq79] at st79
  have N79 := Fr.app N73 N79q
  have pre79 : ∀ t, Steps p.tables e below (T79.setTop (mkF m 21 #[.val (.int p0)] [(.ref rb79), (.ref b77), (.ref b77)])) t → Steps p.tables e below (s₁.setTop (entryFrame m #[(.int p0)] 1)) t := fun t kt => pre78 _ (st79 t kt)
  have Zs79 : n0 ≤ T79.heap.size := Nat.le_trans Zs77 Kc79.1
  have ne_b77_rb79 : b77 ≠ rb79 := Nat.ne_of_lt (Nat.lt_of_lt_of_le A77.lt sq79)
  have g_rb79 : n0 ≤ rb79 := Nat.le_trans Zs77 sq79
  have sz_rb79 : h0.size ≤ rb79 := Nat.le_trans K77.1 sq79
  have F79_0 := own_sta_keep F77_0 Kc79 (by simp)
  have F79_1 := A77.keep Kc79
  have F79_2 := F_coder_b77.keep Kc79 (by simp)
  have F79_3 := F_value_b77.keep Kc79 (by simp)
  have K79 := K77.trans Kc79 (by simp)
  have pre80 : ∀ t, Steps p.tables e below (T79.setTop (mkF m 22 #[.val (.int p0)] [(.int (0 : Int32)), (.ref rb79), (.ref b77), (.ref b77)])) t → Steps p.tables e below (s₁.setTop (entryFrame m #[(.int p0)] 1)) t := fun t kt => by
    refine pre79 _ ?_
    show Steps p.tables e below (T79.setTop (mkF m 21 #[.val (.int p0)] [(.ref rb79), (.ref b77), (.ref b77)])) _
    refine XS.iconst X79.here hx rfl (hb hby d8_21) ?_
    show Steps p.tables e below (T79.setTop (mkF m 22 #[.val (.int p0)] [(.int (0 : Int32)), (.ref rb79), (.ref b77), (.ref b77)])) _
    exact kt
  obtain ⟨v81, _, ⟨T81, L81, k81, n81⟩, -, X81, ⟨Lc81, hQ81, l81, y81, z81⟩, st81⟩ := X79.specialBack hx (y := (⟨"java/lang/String", "<init>", "([BB)V"⟩ : MethodName)) rfl hown (mvT hZ (hw _ (List.mem_of_getElem? (i := 50) rfl))) (mvT hZ (hw _ (List.mem_of_getElem? (i := 51) rfl))) (mvT hZ (hw _ (List.mem_of_getElem? (i := 52) rfl))) (by decide) (backOf (W := 1) (rm11 l Z aZ hw [] b77 rb79 (0 : Int32)  T79.heap n0 Zs79 F79_3 F79_2 F79_1 g_b77) hZ (hw _ (List.mem_of_getElem? (i := 52) rfl)) (hw _ (List.mem_of_getElem? (i := 6) rfl)) (by decide) (by decide)) (g := (mkF m 22 #[.val (.int p0)] [(.int (0 : Int32)), (.ref rb79), (.ref b77), (.ref b77)])) rfl (by rw [hml]; rfl) (Steps.refl _) (a := b77) (argsL := [(.ref rb79), (.int (0 : Int32))]) (rest := [(.ref b77)]) (lenOf pd_10 rfl) rfl (by show 2 * 0 + _ ≤ _; exact Nat.le_of_eq rfl) (hb hby d8_22) (fun _ _ => ⟨rfl, rfl, (by decide : 2 + 0 ≤ _), (by decide : 5 + 0 ≤ _)⟩)
  dsimp only [Pt.U, Pt.locs, Pt.cells, Pt.slots] at X81 l81 y81 z81 st81 hQ81
  rw [l81, y81, z81] at X81
  clear l81 y81 z81
  obtain ⟨vq81, N81q, Kc81⟩ := hQ81
  rw [vq81] at st81
  have N81 := Fr.app N79 N81q
  have pre81 : ∀ t, Steps p.tables e below (T81.setTop (mkF m 25 #[.val (.int p0)] [(.ref b77)])) t → Steps p.tables e below (s₁.setTop (entryFrame m #[(.int p0)] 1)) t := fun t kt => pre80 _ (st81.trans kt)
  have Zs81 : n0 ≤ T81.heap.size := Nat.le_trans Zs79 Kc81.1
  have F81_0 := own_sta_keep F79_0 Kc81 (by intro x hx c hc; simp only [List.mem_cons, List.not_mem_nil, or_false] at hx; rcases hx with rfl <;> first | exact F79_1.nostat c hc)
  have F81_1 := F79_1.keep Kc81
  have K81 := K79.trans Kc81 (by intro x hx; simp only [List.mem_cons, List.not_mem_nil, or_false] at hx; rcases hx with rfl <;> first | exact Or.inr sz_b77)
  obtain ⟨fs, hr, hrun, hended, hW, hsame⟩ := X81.leave (v := some (.ref b77)) (fun h => by rw [Bd.returns] at h; cases h)
  refine ⟨_, _, pre81 _ ?_, hrun, hended, _, _, rfl, ?_, ⟨_, rfl⟩, hW, hsame.mono (by decide) (by decide)⟩
  · show Steps p.tables e below (T81.setTop (mkF m 25 #[.val (.int p0)] [(.ref b77)])) _
    jvm_step X81.here [X81.here.top, hx, (hb hby d8_25), X81.method', Bd.returns, Value.isRef, FieldType.isReference]
    first | (intro acts; rw [hr _ acts rfl rfl rfl]) | rw [hr _ _ rfl rfl rfl]
    exact Steps.refl _
  · show Q8 Z p0 cs h0 n0 _ T81.heap _
    exact ⟨b77, rfl, N81, K81, sz_b77⟩
theorem d7_0 : decode prog_118_method_1_code 0 = .ok (.aload_n 0, 1) := by decide +kernel
theorem d7_1 : decode prog_118_method_1_code 1 = .ok (.invokespecial 1, 3) := by decide +kernel
theorem d7_4 : decode prog_118_method_1_code 4 = .ok (.aload_n 0, 1) := by decide +kernel
theorem d7_5 : decode prog_118_method_1_code 5 = .ok (.aload_n 1, 1) := by decide +kernel
theorem d7_6 : decode prog_118_method_1_code 6 = .ok (.putfield 7, 3) := by decide +kernel
theorem d7_9 : decode prog_118_method_1_code 9 = .ok (.return_, 1) := by decide +kernel
theorem pn_7 : plainName "com/example/pertinet/pertinet/satisfiability/BooleanVariable" = true := by first | (simp [plainName, overriddenIn]; done) | decide +kernel
theorem ef_7 (m : MethodId) (x0 : Addr) (x1 : Addr) : entryFrame m #[(.ref x0), (.ref x1)] 2 = mkF m 0 #[.val (.ref x0), .val (.ref x1)] [] := by first | (simp [entryFrame, mkF, argsToLocals, Value.category]; done) | rfl
def Q7 (Z : State) (a0 : Addr) (a1 : Addr) (h0 : Heap) (n0 : Nat) (v : Option Value) (h : Heap) (L : List Loc) : Prop := v = none ∧ Fr n0 L ∧ Keep h0 h [a0] ∧ Fld Z h a0 "com/example/pertinet/pertinet/satisfiability/BooleanVariable" "name" "Ljava/lang/String;" (.ref a1)
set_option maxRecDepth 65536 in
set_option maxHeartbeats 40000000 in
theorem rm7 (l : Launch) (Z : State) (aZ : Array Value) (hw : ∀ d ∈ tables_1, d.before aZ Z = true) (ws : List Jvm.Cond) (a0 : Addr) (a1 : Addr)  (h0 : Heap) (n0 : Nat) (Z0 : n0 ≤ h0.size) (F_name : Fld Z h0 a0 "com/example/pertinet/pertinet/satisfiability/BooleanVariable" "name" "Ljava/lang/String;" .null) (E_o : Exa Z h0 a0 "com/example/pertinet/pertinet/satisfiability/BooleanVariable") (g_a0 : n0 ≤ a0) :
    MetFree l (⟨"com/example/pertinet/pertinet/satisfiability/BooleanVariable", "<init>", "(Ljava/lang/String;)V"⟩ : MethodName) (head1 (Jvm.Cond.code (⟨"com/example/pertinet/pertinet/satisfiability/BooleanVariable", "<init>", "(Ljava/lang/String;)V"⟩ : MethodName) prog_118_method_1_code 2 none :: ws) ({ frames := 1, cells := 0, slots := 0, locals := 12 } : Room)) (fun a U => a = #[(.ref a0), (.ref a1)] ∧ Z.Warmed39 U.vm ∧ U.heap = h0) (fun _ _ _ _ _ => True) (fun _ U oc U' => ∃ v L, oc = .returned v ∧ Q7 Z a0 a1 h0 n0 v U'.heap L ∧ FrameEnd U oc U' L ({ frames := 1, cells := 0, slots := 0, locals := 12 } : Room).cells ({ frames := 1, cells := 0, slots := 0, locals := 12 } : Room).slots) := by
  refine MetFree.of_bodySF (plainFor_of_name pn_7) hisR ?_
  intro p e s m args below meth c s₁ Bd hml0 hP hK
  obtain ⟨rfl, hZ, hh⟩ := hP
  have hx := Bd.exec
  have hby := Bd.bytes
  have hml : c.maxLocals = 2 := hml0
  have hown : s.vm.findClass "com/example/pertinet/pertinet/satisfiability/BooleanVariable" = some m.cls := findClass_of_methodNamed Bd.named
  have hnm := (name_of_methodNamed Bd.named Bd.method).1
  have X0 : Stand p l e ({ frames := 1, cells := 0, slots := 0, locals := 12 } : Room) s m #[(.ref a0), (.ref a1)] below meth c s₁ [] 0 0 := Stand.of_body Bd
  have e0 : s₁.heap = h0 := by rw [← hh, Bd.state]; rfl
  have N0 := Fr.nil n0
  have pre0 : ∀ t, Steps p.tables e below (s₁.setTop (mkF m 0 #[.val (.ref a0), .val (.ref a1)] [])) t → Steps p.tables e below (s₁.setTop (entryFrame m #[(.ref a0), (.ref a1)] 2)) t := fun t kt => castTop (ef_7 m a0 a1) kt
  have pre83 : ∀ t, Steps p.tables e below (s₁.setTop (mkF m 1 #[.val (.ref a0), .val (.ref a1)] [(.ref a0)])) t → Steps p.tables e below (s₁.setTop (entryFrame m #[(.ref a0), (.ref a1)] 2)) t := fun t kt => by
    refine pre0 _ ?_
    show Steps p.tables e below (s₁.setTop (mkF m 0 #[.val (.ref a0), .val (.ref a1)] [])) _
    refine XS.aloadN X0.here hx rfl (hb hby d7_0) rfl rfl ?_
    show Steps p.tables e below (s₁.setTop (mkF m 1 #[.val (.ref a0), .val (.ref a1)] [(.ref a0)])) _
    exact kt
  obtain ⟨T84, X84, e84, st84⟩ := initO X0 hx hZ hown (hw _ (List.mem_of_getElem? (i := 36) rfl)) (hw _ (List.mem_of_getElem? (i := 15) rfl)) (hw _ (List.mem_of_getElem? (i := 16) rfl)) e0 (g := (mkF m 1 #[.val (.ref a0), .val (.ref a1)] [(.ref a0)])) rfl (by rw [hml]; rfl) rfl (hb hby d7_1) (by decide) (W := 0) (by show 2 * 0 + _ ≤ _; exact Nat.le_of_eq rfl) (by decide)
  have pre84 : ∀ t, Steps p.tables e below (T84.setTop (mkF m 4 #[.val (.ref a0), .val (.ref a1)] [])) t → Steps p.tables e below (s₁.setTop (entryFrame m #[(.ref a0), (.ref a1)] 2)) t := fun t kt => pre83 _ (st84 t kt)
  have pre85 : ∀ t, Steps p.tables e below (T84.setTop (mkF m 6 #[.val (.ref a0), .val (.ref a1)] [(.ref a1), (.ref a0)])) t → Steps p.tables e below (s₁.setTop (entryFrame m #[(.ref a0), (.ref a1)] 2)) t := fun t kt => by
    refine pre84 _ ?_
    show Steps p.tables e below (T84.setTop (mkF m 4 #[.val (.ref a0), .val (.ref a1)] [])) _
    refine XS.aloadN X84.here hx rfl (hb hby d7_4) rfl rfl ?_
    show Steps p.tables e below (T84.setTop (mkF m 5 #[.val (.ref a0), .val (.ref a1)] [(.ref a0)])) _
    refine XS.aloadN X84.here hx rfl (hb hby d7_5) rfl rfl ?_
    show Steps p.tables e below (T84.setTop (mkF m 6 #[.val (.ref a0), .val (.ref a1)] [(.ref a1), (.ref a0)])) _
    exact kt
  obtain ⟨T86, h86, X86, e86, W86, st86⟩ := putF X84 hx hZ hown (host := "") (Or.inl (hw _ (List.mem_of_getElem? (i := 37) rfl))) Via.refl e84 F_name E_o (Or.inr ⟨(hw _ (List.mem_of_getElem? (i := 38) rfl)), rfl, hnm⟩) (hw _ (List.mem_of_getElem? (i := 2) rfl)) (ty := (.object "java/lang/String")) (by decide) rfl rfl (g := (mkF m 6 #[.val (.ref a0), .val (.ref a1)] [(.ref a1), (.ref a0)])) rfl rfl (hb hby d7_6)
  have F86_0 := E_o.wr W86
  have F86_1 := F_name.same W86
  have Zs86 : n0 ≤ h86.size := Nat.le_trans Z0 (Keep.of_wr W86).1
  have K0 := Keep.refl h0 [a0]
  have K86 := K0.wr W86 (Or.inl (List.mem_of_getElem? (i := 0) rfl))
  have N86 := Fr.snoc X86 N0 g_a0
  have pre86 : ∀ t, Steps p.tables e below (T86.setTop (mkF m 9 #[.val (.ref a0), .val (.ref a1)] [])) t → Steps p.tables e below (s₁.setTop (entryFrame m #[(.ref a0), (.ref a1)] 2)) t := fun t kt => pre85 _ (st86 t kt)
  obtain ⟨fs, hr, hrun, hended, hW, hsame⟩ := X86.leave (v := none) (fun _ => rfl)
  refine ⟨_, _, pre86 _ ?_, hrun, hended, _, _, rfl, ?_, ⟨_, rfl⟩, hW, hsame.mono (by decide) (by decide)⟩
  · show Steps p.tables e below (T86.setTop (mkF m 9 #[.val (.ref a0), .val (.ref a1)] [])) _
    exact X86.returnOut hx Bd.returns (hb hby d7_9) hr
  · show Q7 Z a0 a1 h0 n0 _ T86.heap _
    rw [e86]
    exact ⟨rfl, N86, K86, F86_1⟩
theorem d13_0 : decode prog_126_method_1_code 0 = .ok (.aload_n 0, 1) := by decide +kernel
theorem d13_1 : decode prog_126_method_1_code 1 = .ok (.invokespecial 1, 3) := by decide +kernel
theorem d13_4 : decode prog_126_method_1_code 4 = .ok (.aload_n 0, 1) := by decide +kernel
theorem d13_5 : decode prog_126_method_1_code 5 = .ok (.aload_n 1, 1) := by decide +kernel
theorem d13_6 : decode prog_126_method_1_code 6 = .ok (.putfield 7, 3) := by decide +kernel
theorem d13_9 : decode prog_126_method_1_code 9 = .ok (.aload_n 0, 1) := by decide +kernel
theorem d13_10 : decode prog_126_method_1_code 10 = .ok (.iload_n 2, 1) := by decide +kernel
theorem d13_11 : decode prog_126_method_1_code 11 = .ok (.putfield 13, 3) := by decide +kernel
theorem d13_14 : decode prog_126_method_1_code 14 = .ok (.return_, 1) := by decide +kernel
theorem pn_13 : plainName "com/example/pertinet/pertinet/satisfiability/Literal" = true := by first | (simp [plainName, overriddenIn]; done) | decide +kernel
theorem ef_13 (m : MethodId) (x0 : Addr) (x1 : Addr) (x2 : Int32) : entryFrame m #[(.ref x0), (.ref x1), (.int x2)] 3 = mkF m 0 #[.val (.ref x0), .val (.ref x1), .val (.int x2)] [] := by first | (simp [entryFrame, mkF, argsToLocals, Value.category]; done) | rfl
def Q13 (Z : State) (a0 : Addr) (a1 : Addr) (p2 : Int32) (h0 : Heap) (n0 : Nat) (v : Option Value) (h : Heap) (L : List Loc) : Prop := v = none ∧ Fr n0 L ∧ Keep h0 h [a0] ∧ Fld Z h a0 "com/example/pertinet/pertinet/satisfiability/Literal" "atom" "Lcom/example/pertinet/pertinet/satisfiability/Atom;" (.ref a1) ∧ Fld Z h a0 "com/example/pertinet/pertinet/satisfiability/Literal" "positive" "Z" (.int (nar .boolean p2))
set_option maxRecDepth 65536 in
set_option maxHeartbeats 40000000 in
theorem rm13 (l : Launch) (Z : State) (aZ : Array Value) (hw : ∀ d ∈ tables_1, d.before aZ Z = true) (ws : List Jvm.Cond) (a0 : Addr) (a1 : Addr) (p2 : Int32)  (h0 : Heap) (n0 : Nat) (Z0 : n0 ≤ h0.size) (F_atom : Fld Z h0 a0 "com/example/pertinet/pertinet/satisfiability/Literal" "atom" "Lcom/example/pertinet/pertinet/satisfiability/Atom;" .null) (F_positive : Fld Z h0 a0 "com/example/pertinet/pertinet/satisfiability/Literal" "positive" "Z" (.int (0 : Int32))) (E_o : Exa Z h0 a0 "com/example/pertinet/pertinet/satisfiability/Literal") (g_a0 : n0 ≤ a0) :
    MetFree l (⟨"com/example/pertinet/pertinet/satisfiability/Literal", "<init>", "(Lcom/example/pertinet/pertinet/satisfiability/Atom;Z)V"⟩ : MethodName) (head1 (Jvm.Cond.code (⟨"com/example/pertinet/pertinet/satisfiability/Literal", "<init>", "(Lcom/example/pertinet/pertinet/satisfiability/Atom;Z)V"⟩ : MethodName) prog_126_method_1_code 3 none :: ws) ({ frames := 1, cells := 0, slots := 0, locals := 12 } : Room)) (fun a U => a = #[(.ref a0), (.ref a1), (.int p2)] ∧ Z.Warmed39 U.vm ∧ U.heap = h0) (fun _ _ _ _ _ => True) (fun _ U oc U' => ∃ v L, oc = .returned v ∧ Q13 Z a0 a1 p2 h0 n0 v U'.heap L ∧ FrameEnd U oc U' L ({ frames := 1, cells := 0, slots := 0, locals := 12 } : Room).cells ({ frames := 1, cells := 0, slots := 0, locals := 12 } : Room).slots) := by
  refine MetFree.of_bodySF (plainFor_of_name pn_13) hisR ?_
  intro p e s m args below meth c s₁ Bd hml0 hP hK
  obtain ⟨rfl, hZ, hh⟩ := hP
  have hx := Bd.exec
  have hby := Bd.bytes
  have hml : c.maxLocals = 3 := hml0
  have hown : s.vm.findClass "com/example/pertinet/pertinet/satisfiability/Literal" = some m.cls := findClass_of_methodNamed Bd.named
  have hnm := (name_of_methodNamed Bd.named Bd.method).1
  have X0 : Stand p l e ({ frames := 1, cells := 0, slots := 0, locals := 12 } : Room) s m #[(.ref a0), (.ref a1), (.int p2)] below meth c s₁ [] 0 0 := Stand.of_body Bd
  have e0 : s₁.heap = h0 := by rw [← hh, Bd.state]; rfl
  have N0 := Fr.nil n0
  have pre0 : ∀ t, Steps p.tables e below (s₁.setTop (mkF m 0 #[.val (.ref a0), .val (.ref a1), .val (.int p2)] [])) t → Steps p.tables e below (s₁.setTop (entryFrame m #[(.ref a0), (.ref a1), (.int p2)] 3)) t := fun t kt => castTop (ef_13 m a0 a1 p2) kt
  have pre88 : ∀ t, Steps p.tables e below (s₁.setTop (mkF m 1 #[.val (.ref a0), .val (.ref a1), .val (.int p2)] [(.ref a0)])) t → Steps p.tables e below (s₁.setTop (entryFrame m #[(.ref a0), (.ref a1), (.int p2)] 3)) t := fun t kt => by
    refine pre0 _ ?_
    show Steps p.tables e below (s₁.setTop (mkF m 0 #[.val (.ref a0), .val (.ref a1), .val (.int p2)] [])) _
    refine XS.aloadN X0.here hx rfl (hb hby d13_0) rfl rfl ?_
    show Steps p.tables e below (s₁.setTop (mkF m 1 #[.val (.ref a0), .val (.ref a1), .val (.int p2)] [(.ref a0)])) _
    exact kt
  obtain ⟨T89, X89, e89, st89⟩ := initO X0 hx hZ hown (hw _ (List.mem_of_getElem? (i := 63) rfl)) (hw _ (List.mem_of_getElem? (i := 15) rfl)) (hw _ (List.mem_of_getElem? (i := 16) rfl)) e0 (g := (mkF m 1 #[.val (.ref a0), .val (.ref a1), .val (.int p2)] [(.ref a0)])) rfl (by rw [hml]; rfl) rfl (hb hby d13_1) (by decide) (W := 0) (by show 2 * 0 + _ ≤ _; exact Nat.le_of_eq rfl) (by decide)
  have pre89 : ∀ t, Steps p.tables e below (T89.setTop (mkF m 4 #[.val (.ref a0), .val (.ref a1), .val (.int p2)] [])) t → Steps p.tables e below (s₁.setTop (entryFrame m #[(.ref a0), (.ref a1), (.int p2)] 3)) t := fun t kt => pre88 _ (st89 t kt)
  have pre90 : ∀ t, Steps p.tables e below (T89.setTop (mkF m 6 #[.val (.ref a0), .val (.ref a1), .val (.int p2)] [(.ref a1), (.ref a0)])) t → Steps p.tables e below (s₁.setTop (entryFrame m #[(.ref a0), (.ref a1), (.int p2)] 3)) t := fun t kt => by
    refine pre89 _ ?_
    show Steps p.tables e below (T89.setTop (mkF m 4 #[.val (.ref a0), .val (.ref a1), .val (.int p2)] [])) _
    refine XS.aloadN X89.here hx rfl (hb hby d13_4) rfl rfl ?_
    show Steps p.tables e below (T89.setTop (mkF m 5 #[.val (.ref a0), .val (.ref a1), .val (.int p2)] [(.ref a0)])) _
    refine XS.aloadN X89.here hx rfl (hb hby d13_5) rfl rfl ?_
    show Steps p.tables e below (T89.setTop (mkF m 6 #[.val (.ref a0), .val (.ref a1), .val (.int p2)] [(.ref a1), (.ref a0)])) _
    exact kt
  obtain ⟨T91, h91, X91, e91, W91, st91⟩ := putF X89 hx hZ hown (host := "") (Or.inl (hw _ (List.mem_of_getElem? (i := 64) rfl))) Via.refl e89 F_atom E_o (Or.inr ⟨(hw _ (List.mem_of_getElem? (i := 65) rfl)), rfl, hnm⟩) (hw _ (List.mem_of_getElem? (i := 58) rfl)) (ty := (.object "com/example/pertinet/pertinet/satisfiability/Atom")) (by decide) rfl rfl (g := (mkF m 6 #[.val (.ref a0), .val (.ref a1), .val (.int p2)] [(.ref a1), (.ref a0)])) rfl rfl (hb hby d13_6)
  have F91_0 := E_o.wr W91
  have F91_1 := F_atom.same W91
  have F91_2 := F_positive.other W91 (Or.inr (slot_ne (Or.inr (hw _ (List.mem_of_getElem? (i := 67) rfl))) (Or.inr (hw _ (List.mem_of_getElem? (i := 65) rfl))) (by decide) (t := .boolean) (t' := (.object "com/example/pertinet/pertinet/satisfiability/Atom")) (by decide) (by decide)))
  have Zs91 : n0 ≤ h91.size := Nat.le_trans Z0 (Keep.of_wr W91).1
  have K0 := Keep.refl h0 [a0]
  have K91 := K0.wr W91 (Or.inl (List.mem_of_getElem? (i := 0) rfl))
  have N91 := Fr.snoc X91 N0 g_a0
  have pre91 : ∀ t, Steps p.tables e below (T91.setTop (mkF m 9 #[.val (.ref a0), .val (.ref a1), .val (.int p2)] [])) t → Steps p.tables e below (s₁.setTop (entryFrame m #[(.ref a0), (.ref a1), (.int p2)] 3)) t := fun t kt => pre90 _ (st91 t kt)
  have pre92 : ∀ t, Steps p.tables e below (T91.setTop (mkF m 11 #[.val (.ref a0), .val (.ref a1), .val (.int p2)] [(.int p2), (.ref a0)])) t → Steps p.tables e below (s₁.setTop (entryFrame m #[(.ref a0), (.ref a1), (.int p2)] 3)) t := fun t kt => by
    refine pre91 _ ?_
    show Steps p.tables e below (T91.setTop (mkF m 9 #[.val (.ref a0), .val (.ref a1), .val (.int p2)] [])) _
    refine XS.aloadN X91.here hx rfl (hb hby d13_9) rfl rfl ?_
    show Steps p.tables e below (T91.setTop (mkF m 10 #[.val (.ref a0), .val (.ref a1), .val (.int p2)] [(.ref a0)])) _
    refine XS.iloadN X91.here hx rfl (hb hby d13_10) rfl ?_
    show Steps p.tables e below (T91.setTop (mkF m 11 #[.val (.ref a0), .val (.ref a1), .val (.int p2)] [(.int p2), (.ref a0)])) _
    exact kt
  obtain ⟨T93, h93, X93, e93, W93, st93⟩ := putFN X91 hx hZ hown (hw _ (List.mem_of_getElem? (i := 66) rfl)) Via.refl e91 F91_2 F91_0 (Or.inr ⟨(hw _ (List.mem_of_getElem? (i := 67) rfl)), rfl, hnm⟩) (hw _ (List.mem_of_getElem? (i := 58) rfl)) (ty := .boolean) (v' := (.int (nar .boolean p2))) (by decide) rfl (fits_nar_bool _) (g := (mkF m 11 #[.val (.ref a0), .val (.ref a1), .val (.int p2)] [(.int p2), (.ref a0)])) rfl rfl (hb hby d13_11)
  have F93_0 := F91_0.wr W93
  have F93_1 := F91_1.other W93 (Or.inr (slot_ne (Or.inr (hw _ (List.mem_of_getElem? (i := 65) rfl))) (Or.inr (hw _ (List.mem_of_getElem? (i := 67) rfl))) (by decide) (t := (.object "com/example/pertinet/pertinet/satisfiability/Atom")) (t' := .boolean) (by decide) (by decide)))
  have F93_2 := F91_2.same W93
  have Zs93 : n0 ≤ h93.size := Nat.le_trans Zs91 (Keep.of_wr W93).1
  have K93 := K91.wr W93 (Or.inl (List.mem_of_getElem? (i := 0) rfl))
  have N93 := Fr.snoc X93 N91 g_a0
  have pre93 : ∀ t, Steps p.tables e below (T93.setTop (mkF m 14 #[.val (.ref a0), .val (.ref a1), .val (.int p2)] [])) t → Steps p.tables e below (s₁.setTop (entryFrame m #[(.ref a0), (.ref a1), (.int p2)] 3)) t := fun t kt => pre92 _ (st93 t kt)
  obtain ⟨fs, hr, hrun, hended, hW, hsame⟩ := X93.leave (v := none) (fun _ => rfl)
  refine ⟨_, _, pre93 _ ?_, hrun, hended, _, _, rfl, ?_, ⟨_, rfl⟩, hW, hsame.mono (by decide) (by decide)⟩
  · show Steps p.tables e below (T93.setTop (mkF m 14 #[.val (.ref a0), .val (.ref a1), .val (.int p2)] [])) _
    exact X93.returnOut hx Bd.returns (hb hby d13_14) hr
  · show Q13 Z a0 a1 p2 h0 n0 _ T93.heap _
    rw [e93]
    exact ⟨rfl, N93, K93, F93_1, F93_2⟩
theorem d12_0 : decode prog_119_method_1_code 0 = .ok (.new 1, 3) := by decide +kernel
theorem d12_3 : decode prog_119_method_1_code 3 = .ok (.dup, 1) := by decide +kernel
theorem d12_4 : decode prog_119_method_1_code 4 = .ok (.aload_n 0, 1) := by decide +kernel
theorem d12_5 : decode prog_119_method_1_code 5 = .ok (.iconst 1, 1) := by decide +kernel
theorem d12_6 : decode prog_119_method_1_code 6 = .ok (.invokespecial 3, 3) := by decide +kernel
theorem d12_9 : decode prog_119_method_1_code 9 = .ok (.areturn, 1) := by decide +kernel
theorem pn_12 : plainName "com/example/pertinet/pertinet/satisfiability/Formula" = true := by first | (simp [plainName, overriddenIn]; done) | decide +kernel
theorem ef_12 (m : MethodId) (x0 : Addr) : entryFrame m #[(.ref x0)] 1 = mkF m 0 #[.val (.ref x0)] [] := by first | (simp [entryFrame, mkF, argsToLocals, Value.category]; done) | rfl
def Q12 (Z : State) (a0 : Addr) (h0 : Heap) (n0 : Nat) (v : Option Value) (h : Heap) (L : List Loc) : Prop := ∃ (rl : Addr), v = some (.ref rl) ∧ Fr n0 L ∧ Keep h0 h [] ∧ h0.size ≤ rl ∧ Exa Z h rl "com/example/pertinet/pertinet/satisfiability/Literal" ∧ Fld Z h rl "com/example/pertinet/pertinet/satisfiability/Literal" "atom" "Lcom/example/pertinet/pertinet/satisfiability/Atom;" (.ref a0) ∧ Fld Z h rl "com/example/pertinet/pertinet/satisfiability/Literal" "positive" "Z" (.int (1 : Int32))
set_option maxRecDepth 65536 in
set_option maxHeartbeats 40000000 in
theorem rm12 (l : Launch) (Z : State) (aZ : Array Value) (hw : ∀ d ∈ tables_1, d.before aZ Z = true) (ws : List Jvm.Cond) (a0 : Addr)  (h0 : Heap) (n0 : Nat) (Z0 : n0 ≤ h0.size)  :
    MetFree l (⟨"com/example/pertinet/pertinet/satisfiability/Formula", "of", "(Lcom/example/pertinet/pertinet/satisfiability/BooleanVariable;)Lcom/example/pertinet/pertinet/satisfiability/Formula;"⟩ : MethodName) (head1 (Jvm.Cond.code (⟨"com/example/pertinet/pertinet/satisfiability/Formula", "of", "(Lcom/example/pertinet/pertinet/satisfiability/BooleanVariable;)Lcom/example/pertinet/pertinet/satisfiability/Formula;"⟩ : MethodName) prog_119_method_1_code 1 (some (.object "com/example/pertinet/pertinet/satisfiability/Formula")) :: ws) ({ frames := 2, cells := 1, slots := 2, locals := 40 } : Room)) (fun a U => a = #[(.ref a0)] ∧ Z.Warmed39 U.vm ∧ U.heap = h0) (fun _ _ _ _ _ => True) (fun _ U oc U' => ∃ v L, oc = .returned v ∧ Q12 Z a0 h0 n0 v U'.heap L ∧ FrameEnd U oc U' L ({ frames := 2, cells := 1, slots := 2, locals := 40 } : Room).cells ({ frames := 2, cells := 1, slots := 2, locals := 40 } : Room).slots) := by
  refine MetFree.of_bodySF (plainFor_of_name pn_12) hisR ?_
  intro p e s m args below meth c s₁ Bd hml0 hP hK
  obtain ⟨rfl, hZ, hh⟩ := hP
  have hx := Bd.exec
  have hby := Bd.bytes
  have hml : c.maxLocals = 1 := hml0
  have hown : s.vm.findClass "com/example/pertinet/pertinet/satisfiability/Formula" = some m.cls := findClass_of_methodNamed Bd.named
  have hnm := (name_of_methodNamed Bd.named Bd.method).1
  have X0 : Stand p l e ({ frames := 2, cells := 1, slots := 2, locals := 40 } : Room) s m #[(.ref a0)] below meth c s₁ [] 0 0 := Stand.of_body Bd
  have e0 : s₁.heap = h0 := by rw [← hh, Bd.state]; rfl
  have N0 := Fr.nil n0
  have pre0 : ∀ t, Steps p.tables e below (s₁.setTop (mkF m 0 #[.val (.ref a0)] [])) t → Steps p.tables e below (s₁.setTop (entryFrame m #[(.ref a0)] 1)) t := fun t kt => castTop (ef_12 m a0) kt
  obtain ⟨T96, h96, X96, e96, E96, A96, D96, -, st96⟩ := newO X0 hx hZ hown (hw _ (List.mem_of_getElem? (i := 57) rfl)) (hw _ (List.mem_of_getElem? (i := 58) rfl)) (hw _ (List.mem_of_getElem? (i := 59) rfl)) e0 (g := (mkF m 0 #[.val (.ref a0)] [])) rfl (hb hby d12_0) (by decide) (by decide)
  obtain ⟨b96, g96⟩ : ∃ z, z = h0.size := ⟨_, rfl⟩
  have g_b96 : n0 ≤ b96 := Nat.le_trans Z0 (Nat.le_of_eq g96.symm)
  have sz_b96 : h0.size ≤ b96 := Nat.le_of_eq g96.symm
  rw [← g96] at A96 D96 st96
  have Zs96 : n0 ≤ h96.size := Nat.le_trans Z0 E96.1
  have K0 := Keep.refl h0 []
  have K96 := K0.ext E96
  have F_atom_b96 : Fld Z h96 b96 "com/example/pertinet/pertinet/satisfiability/Literal" "atom" "Lcom/example/pertinet/pertinet/satisfiability/Atom;" .null := D96 (Or.inr (hw _ (List.mem_of_getElem? (i := 65) rfl))) (ty := (.object "com/example/pertinet/pertinet/satisfiability/Atom")) (by decide)
  have F_positive_b96 : Fld Z h96 b96 "com/example/pertinet/pertinet/satisfiability/Literal" "positive" "Z" (.int (0 : Int32)) := D96 (Or.inr (hw _ (List.mem_of_getElem? (i := 67) rfl))) (ty := .boolean) (by decide)
  have pre96 : ∀ t, Steps p.tables e below (T96.setTop (mkF m 3 #[.val (.ref a0)] [(.ref b96)])) t → Steps p.tables e below (s₁.setTop (entryFrame m #[(.ref a0)] 1)) t := fun t kt => pre0 _ (st96 t kt)
  have pre97 : ∀ t, Steps p.tables e below (T96.setTop (mkF m 6 #[.val (.ref a0)] [(.int (1 : Int32)), (.ref a0), (.ref b96), (.ref b96)])) t → Steps p.tables e below (s₁.setTop (entryFrame m #[(.ref a0)] 1)) t := fun t kt => by
    refine pre96 _ ?_
    show Steps p.tables e below (T96.setTop (mkF m 3 #[.val (.ref a0)] [(.ref b96)])) _
    refine XS.dup X96.here hx rfl (hb hby d12_3) rfl rfl ?_
    show Steps p.tables e below (T96.setTop (mkF m 4 #[.val (.ref a0)] [(.ref b96), (.ref b96)])) _
    refine XS.aloadN X96.here hx rfl (hb hby d12_4) rfl rfl ?_
    show Steps p.tables e below (T96.setTop (mkF m 5 #[.val (.ref a0)] [(.ref a0), (.ref b96), (.ref b96)])) _
    refine XS.iconst X96.here hx rfl (hb hby d12_5) ?_
    show Steps p.tables e below (T96.setTop (mkF m 6 #[.val (.ref a0)] [(.int (1 : Int32)), (.ref a0), (.ref b96), (.ref b96)])) _
    exact kt
  obtain ⟨v98, _, ⟨T98, L98, k98, n98⟩, -, X98, ⟨Lc98, hQ98, l98, y98, z98⟩, st98⟩ := X96.specialBack hx (y := (⟨"com/example/pertinet/pertinet/satisfiability/Literal", "<init>", "(Lcom/example/pertinet/pertinet/satisfiability/Atom;Z)V"⟩ : MethodName)) rfl hown (mvT hZ (hw _ (List.mem_of_getElem? (i := 60) rfl))) (mvT hZ (hw _ (List.mem_of_getElem? (i := 61) rfl))) (mvT hZ (hw _ (List.mem_of_getElem? (i := 62) rfl))) (by decide) (backOf (W := 1) (rm13 l Z aZ hw [] b96 a0 (1 : Int32)  h96 n0 Zs96 F_atom_b96 F_positive_b96 A96 g_b96) hZ (hw _ (List.mem_of_getElem? (i := 62) rfl)) (hw _ (List.mem_of_getElem? (i := 59) rfl)) (by decide) (by decide)) (g := (mkF m 6 #[.val (.ref a0)] [(.int (1 : Int32)), (.ref a0), (.ref b96), (.ref b96)])) rfl (by rw [hml]; rfl) (Steps.refl _) (a := b96) (argsL := [(.ref a0), (.int (1 : Int32))]) (rest := [(.ref b96)]) (lenOf pd_12 rfl) rfl (by show 2 * 0 + _ ≤ _; exact Nat.le_of_eq rfl) (hb hby d12_6) (fun _ _ => ⟨rfl, e96, (by decide : 1 + 0 ≤ _), (by decide : 2 + 0 ≤ _)⟩)
  dsimp only [Pt.U, Pt.locs, Pt.cells, Pt.slots] at X98 l98 y98 z98 st98 hQ98
  rw [l98, y98, z98] at X98
  clear l98 y98 z98
  obtain ⟨vq98, N98q, Kc98, Fq98_atom, Fq98_positive⟩ := hQ98
  rw [vq98] at st98
  have N98 := Fr.app N0 N98q
  have pre98 : ∀ t, Steps p.tables e below (T98.setTop (mkF m 9 #[.val (.ref a0)] [(.ref b96)])) t → Steps p.tables e below (s₁.setTop (entryFrame m #[(.ref a0)] 1)) t := fun t kt => pre97 _ (st98.trans kt)
  have Zs98 : n0 ≤ T98.heap.size := Nat.le_trans Zs96 Kc98.1
  have F98_0 := A96.keep Kc98
  have K98 := K96.trans Kc98 (by intro x hx; simp only [List.mem_cons, List.not_mem_nil, or_false] at hx; rcases hx with rfl <;> first | exact Or.inr sz_b96)
  obtain ⟨fs, hr, hrun, hended, hW, hsame⟩ := X98.leave (v := some (.ref b96)) (fun h => by rw [Bd.returns] at h; cases h)
  refine ⟨_, _, pre98 _ ?_, hrun, hended, _, _, rfl, ?_, ⟨_, rfl⟩, hW, hsame.mono (by decide) (by decide)⟩
  · show Steps p.tables e below (T98.setTop (mkF m 9 #[.val (.ref a0)] [(.ref b96)])) _
    jvm_step X98.here [X98.here.top, hx, (hb hby d12_9), X98.method', Bd.returns, Value.isRef, FieldType.isReference]
    first | (intro acts; rw [hr _ acts rfl rfl rfl]) | rw [hr _ _ rfl rfl rfl]
    exact Steps.refl _
  · show Q12 Z a0 h0 n0 _ T98.heap _
    exact ⟨b96, rfl, N98, K98, sz_b96, F98_0, Fq98_atom, Fq98_positive⟩
theorem d14_0 : decode prog_126_method_2_code 0 = .ok (.aload_n 0, 1) := by decide +kernel
theorem d14_1 : decode prog_126_method_2_code 1 = .ok (.getfield 7, 3) := by decide +kernel
theorem d14_4 : decode prog_126_method_2_code 4 = .ok (.areturn, 1) := by decide +kernel
theorem ef_14 (m : MethodId) (x0 : Addr) : entryFrame m #[(.ref x0)] 1 = mkF m 0 #[.val (.ref x0)] [] := by first | (simp [entryFrame, mkF, argsToLocals, Value.category]; done) | rfl
def Q14 (Z : State) (a0 : Addr) (wa : Addr) (h0 : Heap) (n0 : Nat) (v : Option Value) (h : Heap) (L : List Loc) : Prop := v = some (.ref wa) ∧ Fr n0 L ∧ h = h0
set_option maxRecDepth 65536 in
set_option maxHeartbeats 40000000 in
theorem rm14 (l : Launch) (Z : State) (aZ : Array Value) (hw : ∀ d ∈ tables_1, d.before aZ Z = true) (ws : List Jvm.Cond) (a0 : Addr) (wa : Addr) (h0 : Heap) (n0 : Nat) (Z0 : n0 ≤ h0.size) (F_a : Fld Z h0 a0 "com/example/pertinet/pertinet/satisfiability/Literal" "atom" "Lcom/example/pertinet/pertinet/satisfiability/Atom;" (.ref wa)) :
    MetFree l (⟨"com/example/pertinet/pertinet/satisfiability/Literal", "getAtom", "()Lcom/example/pertinet/pertinet/satisfiability/Atom;"⟩ : MethodName) (head1 (Jvm.Cond.code (⟨"com/example/pertinet/pertinet/satisfiability/Literal", "getAtom", "()Lcom/example/pertinet/pertinet/satisfiability/Atom;"⟩ : MethodName) prog_126_method_2_code 1 (some (.object "com/example/pertinet/pertinet/satisfiability/Atom")) :: ws) ({ frames := 0, cells := 0, slots := 0, locals := 0 } : Room)) (fun a U => a = #[(.ref a0)] ∧ Z.Warmed39 U.vm ∧ U.heap = h0) (fun _ _ _ _ _ => True) (fun _ U oc U' => ∃ v L, oc = .returned v ∧ Q14 Z a0 wa h0 n0 v U'.heap L ∧ FrameEnd U oc U' L ({ frames := 0, cells := 0, slots := 0, locals := 0 } : Room).cells ({ frames := 0, cells := 0, slots := 0, locals := 0 } : Room).slots) := by
  refine MetFree.of_bodySF (plainFor_of_name pn_13) hisR ?_
  intro p e s m args below meth c s₁ Bd hml0 hP hK
  obtain ⟨rfl, hZ, hh⟩ := hP
  have hx := Bd.exec
  have hby := Bd.bytes
  have hml : c.maxLocals = 1 := hml0
  have hown : s.vm.findClass "com/example/pertinet/pertinet/satisfiability/Literal" = some m.cls := findClass_of_methodNamed Bd.named
  have hnm := (name_of_methodNamed Bd.named Bd.method).1
  have X0 : Stand p l e ({ frames := 0, cells := 0, slots := 0, locals := 0 } : Room) s m #[(.ref a0)] below meth c s₁ [] 0 0 := Stand.of_body Bd
  have e0 : s₁.heap = h0 := by rw [← hh, Bd.state]; rfl
  have N0 := Fr.nil n0
  have pre0 : ∀ t, Steps p.tables e below (s₁.setTop (mkF m 0 #[.val (.ref a0)] [])) t → Steps p.tables e below (s₁.setTop (entryFrame m #[(.ref a0)] 1)) t := fun t kt => castTop (ef_14 m a0) kt
  have pre100 : ∀ t, Steps p.tables e below (s₁.setTop (mkF m 1 #[.val (.ref a0)] [(.ref a0)])) t → Steps p.tables e below (s₁.setTop (entryFrame m #[(.ref a0)] 1)) t := fun t kt => by
    refine pre0 _ ?_
    show Steps p.tables e below (s₁.setTop (mkF m 0 #[.val (.ref a0)] [])) _
    refine XS.aloadN X0.here hx rfl (hb hby d14_0) rfl rfl ?_
    show Steps p.tables e below (s₁.setTop (mkF m 1 #[.val (.ref a0)] [(.ref a0)])) _
    exact kt
  obtain ⟨T101, X101, e101, st101⟩ := getF X0 hx hZ hown (host := "") (Or.inl (hw _ (List.mem_of_getElem? (i := 64) rfl))) Via.refl e0 F_a (g := (mkF m 1 #[.val (.ref a0)] [(.ref a0)])) rfl rfl (hb hby d14_1)
  have pre101 : ∀ t, Steps p.tables e below (T101.setTop (mkF m 4 #[.val (.ref a0)] [(.ref wa)])) t → Steps p.tables e below (s₁.setTop (entryFrame m #[(.ref a0)] 1)) t := fun t kt => pre100 _ (st101 t kt)
  obtain ⟨fs, hr, hrun, hended, hW, hsame⟩ := X101.leave (v := some (.ref wa)) (fun h => by rw [Bd.returns] at h; cases h)
  refine ⟨_, _, pre101 _ ?_, hrun, hended, _, _, rfl, ?_, ⟨_, rfl⟩, hW, hsame.mono (by decide) (by decide)⟩
  · show Steps p.tables e below (T101.setTop (mkF m 4 #[.val (.ref a0)] [(.ref wa)])) _
    jvm_step X101.here [X101.here.top, hx, (hb hby d14_4), X101.method', Bd.returns, Value.isRef, FieldType.isReference]
    first | (intro acts; rw [hr _ acts rfl rfl rfl]) | rw [hr _ _ rfl rfl rfl]
    exact Steps.refl _
  · show Q14 Z a0 wa h0 n0 _ T101.heap _
    rw [e101]
    exact ⟨rfl, N0, rfl⟩
theorem d15_0 : decode prog_126_method_3_code 0 = .ok (.aload_n 0, 1) := by decide +kernel
theorem d15_1 : decode prog_126_method_3_code 1 = .ok (.getfield 13, 3) := by decide +kernel
theorem d15_4 : decode prog_126_method_3_code 4 = .ok (.ireturn, 1) := by decide +kernel
theorem ef_15 (m : MethodId) (x0 : Addr) : entryFrame m #[(.ref x0)] 1 = mkF m 0 #[.val (.ref x0)] [] := by first | (simp [entryFrame, mkF, argsToLocals, Value.category]; done) | rfl
def Q15 (Z : State) (a0 : Addr) (h0 : Heap) (n0 : Nat) (v : Option Value) (h : Heap) (L : List Loc) : Prop := v = some (.int (1 : Int32)) ∧ Fr n0 L ∧ h = h0
set_option maxRecDepth 65536 in
set_option maxHeartbeats 40000000 in
theorem rm15 (l : Launch) (Z : State) (aZ : Array Value) (hw : ∀ d ∈ tables_1, d.before aZ Z = true) (ws : List Jvm.Cond) (a0 : Addr)  (h0 : Heap) (n0 : Nat) (Z0 : n0 ≤ h0.size) (F_p : Fld Z h0 a0 "com/example/pertinet/pertinet/satisfiability/Literal" "positive" "Z" (.int (1 : Int32))) :
    MetFree l (⟨"com/example/pertinet/pertinet/satisfiability/Literal", "isPositive", "()Z"⟩ : MethodName) (head1 (Jvm.Cond.code (⟨"com/example/pertinet/pertinet/satisfiability/Literal", "isPositive", "()Z"⟩ : MethodName) prog_126_method_3_code 1 (some .boolean) :: ws) ({ frames := 0, cells := 0, slots := 0, locals := 0 } : Room)) (fun a U => a = #[(.ref a0)] ∧ Z.Warmed39 U.vm ∧ U.heap = h0) (fun _ _ _ _ _ => True) (fun _ U oc U' => ∃ v L, oc = .returned v ∧ Q15 Z a0 h0 n0 v U'.heap L ∧ FrameEnd U oc U' L ({ frames := 0, cells := 0, slots := 0, locals := 0 } : Room).cells ({ frames := 0, cells := 0, slots := 0, locals := 0 } : Room).slots) := by
  refine MetFree.of_bodySF (plainFor_of_name pn_13) hisR ?_
  intro p e s m args below meth c s₁ Bd hml0 hP hK
  obtain ⟨rfl, hZ, hh⟩ := hP
  have hx := Bd.exec
  have hby := Bd.bytes
  have hml : c.maxLocals = 1 := hml0
  have hown : s.vm.findClass "com/example/pertinet/pertinet/satisfiability/Literal" = some m.cls := findClass_of_methodNamed Bd.named
  have hnm := (name_of_methodNamed Bd.named Bd.method).1
  have X0 : Stand p l e ({ frames := 0, cells := 0, slots := 0, locals := 0 } : Room) s m #[(.ref a0)] below meth c s₁ [] 0 0 := Stand.of_body Bd
  have e0 : s₁.heap = h0 := by rw [← hh, Bd.state]; rfl
  have N0 := Fr.nil n0
  have pre0 : ∀ t, Steps p.tables e below (s₁.setTop (mkF m 0 #[.val (.ref a0)] [])) t → Steps p.tables e below (s₁.setTop (entryFrame m #[(.ref a0)] 1)) t := fun t kt => castTop (ef_15 m a0) kt
  have pre103 : ∀ t, Steps p.tables e below (s₁.setTop (mkF m 1 #[.val (.ref a0)] [(.ref a0)])) t → Steps p.tables e below (s₁.setTop (entryFrame m #[(.ref a0)] 1)) t := fun t kt => by
    refine pre0 _ ?_
    show Steps p.tables e below (s₁.setTop (mkF m 0 #[.val (.ref a0)] [])) _
    refine XS.aloadN X0.here hx rfl (hb hby d15_0) rfl rfl ?_
    show Steps p.tables e below (s₁.setTop (mkF m 1 #[.val (.ref a0)] [(.ref a0)])) _
    exact kt
  obtain ⟨T104, X104, e104, st104⟩ := getF X0 hx hZ hown (host := "") (Or.inl (hw _ (List.mem_of_getElem? (i := 66) rfl))) Via.refl e0 F_p (g := (mkF m 1 #[.val (.ref a0)] [(.ref a0)])) rfl rfl (hb hby d15_1)
  have pre104 : ∀ t, Steps p.tables e below (T104.setTop (mkF m 4 #[.val (.ref a0)] [(.int (1 : Int32))])) t → Steps p.tables e below (s₁.setTop (entryFrame m #[(.ref a0)] 1)) t := fun t kt => pre103 _ (st104 t kt)
  obtain ⟨fs, hr, hrun, hended, hW, hsame⟩ := X104.leave (v := some (.int (1 : Int32))) (fun h => by rw [Bd.returns] at h; cases h)
  refine ⟨_, _, pre104 _ ?_, hrun, hended, _, _, rfl, ?_, ⟨_, rfl⟩, hW, hsame.mono (by decide) (by decide)⟩
  · show Steps p.tables e below (T104.setTop (mkF m 4 #[.val (.ref a0)] [(.int (1 : Int32))])) _
    exact retN X104 hx (t := .boolean) Bd.returns (by simp) (hb hby d15_4) hr
  · show Q15 Z a0 h0 n0 _ T104.heap _
    rw [e104]
    exact ⟨rfl, N0, rfl⟩
theorem own_c (x : Int32) : ¬ (255 : Int32) < ((x &&& (255 : Int32)).toUInt32.toUInt16.toUInt32.toInt32) := by
  have e : (x &&& (255 : Int32)).toInt = x.toInt % 2 ^ 8 := Jvm.Kit.i32_mask x 255 (k := 8) (by decide) (by decide)
  generalize (x &&& (255 : Int32)) = y at e ⊢
  have k : (255 : Int32).toInt = 255 := by decide
  have hb : y.toInt = (y.toBitVec.toNat : Int) := by
    have q : y.toInt = y.toBitVec.toInt := rfl
    have l := y.toBitVec.isLt
    rw [q] at e ⊢
    rw [BitVec.toInt_eq_toNat_cond] at e ⊢
    split at e <;> omega
  have h : (y.toUInt32.toUInt16.toUInt32.toInt32).toInt = y.toInt := by
    have a : (y.toUInt32.toUInt16.toUInt32).toNat = y.toBitVec.toNat := by
      rw [UInt16.toNat_toUInt32, UInt32.toNat_toUInt16]
      show y.toBitVec.toNat % 65536 = y.toBitVec.toNat
      omega
    have q : (y.toUInt32.toUInt16.toUInt32.toInt32).toInt = (y.toUInt32.toUInt16.toUInt32).toBitVec.toInt := rfl
    have a' : (y.toUInt32.toUInt16.toUInt32).toBitVec.toNat = y.toBitVec.toNat := a
    rw [q, BitVec.toInt_eq_toNat_cond, a', hb]
    split <;> omega
  rw [Int32.lt_iff_toInt_lt, h, k]; omega
theorem pn_0 : plainName "com/example/pertinet/pertinet/satisfiability/FormulaOfPinLaw" = true := by first | (simp [plainName, overriddenIn]; done) | decide +kernel
theorem ef_0 (m : MethodId) (x0 : Int32) (x1 : Int32) (x2 : Int32) : entryFrame m #[(.int x0), (.int x1), (.int x2)] maxLocals = mkF m 0 #[.val (.int x0), .val (.int x1), .val (.int x2), .unset, .unset, .unset, .unset, .unset, .unset, .unset] [] := by first | (simp [entryFrame, mkF, argsToLocals, Value.category, maxLocals]; done) | rfl
theorem own_c2 (x : Int32) : ¬ (255 : Int32) < (nar .char ((x &&& (255 : Int32)).toUInt32.toUInt16.toUInt32.toInt32)) := by
  have q : nar .char ((x &&& (255 : Int32)).toUInt32.toUInt16.toUInt32.toInt32) = (x &&& (255 : Int32)).toUInt32.toUInt16.toUInt32.toInt32 := by
    show (((x &&& (255 : Int32)).toUInt32.toUInt16.toUInt32.toInt32).toUInt32.toUInt16.toUInt32.toInt32) = _
    rw [UInt32.toUInt32_toInt32, UInt16.toUInt16_toUInt32]
  rw [q]
  exact own_c x
def Q0 (x0 : Int32) (x1 : Int32) (x2 : Int32) (h0 : Heap) (n0 : Nat) (v : Option Value) (h : Heap) (L : List Loc) : Prop := v = some (.int (1 : Int32)) ∧ Fr n0 L
set_option maxRecDepth 65536 in
set_option maxHeartbeats 40000000 in
theorem rm0 (l : Launch) (Z : State) (aZ : Array Value) (hw : ∀ d ∈ tables_1, d.before aZ Z = true) (ws : List Jvm.Cond) (x0 : Int32) (x1 : Int32) (x2 : Int32) (cs : Int32) (h0 : Heap) (n0 : Nat) (Z0 : n0 ≤ h0.size) (S_C : Sta Z h0 "java/lang/String" "COMPACT_STRINGS" "Z" (.int cs)) (hcs : ¬ cs = (0 : Int32)) :
    MetFree l x (head1 (Jvm.Cond.code x code maxLocals ret :: ws) room_1) (fun a U => a = #[(.int x0), (.int x1), (.int x2)] ∧ Z.Warmed39 U.vm ∧ U.heap = h0) (fun _ _ _ _ _ => True) (fun _ U oc U' => ∃ v L, oc = .returned v ∧ Q0 x0 x1 x2 h0 n0 v U'.heap L ∧ FrameEnd U oc U' L room_1.cells room_1.slots) := by
  refine MetFree.of_bodySF (plainFor_of_name pn_0) hisR ?_
  intro p e s m args below meth c s₁ Bd hml0 hP hK
  obtain ⟨rfl, hZ, hh⟩ := hP
  have hx := Bd.exec
  have hby := Bd.bytes
  have hml : c.maxLocals = 10 := hml0
  have hown : s.vm.findClass "com/example/pertinet/pertinet/satisfiability/FormulaOfPinLaw" = some m.cls := findClass_of_methodNamed Bd.named
  have hnm := (name_of_methodNamed Bd.named Bd.method).1
  have X0 : Stand p l e room_1 s m #[(.int x0), (.int x1), (.int x2)] below meth c s₁ [] 0 0 := Stand.of_body Bd
  have e0 : s₁.heap = h0 := by rw [← hh, Bd.state]; rfl
  have N0 := Fr.nil n0
  have pre0 : ∀ t, Steps p.tables e below (s₁.setTop (mkF m 0 #[.val (.int x0), .val (.int x1), .val (.int x2), .unset, .unset, .unset, .unset, .unset, .unset, .unset] [])) t → Steps p.tables e below (s₁.setTop (entryFrame m #[(.int x0), (.int x1), (.int x2)] maxLocals)) t := fun t kt => castTop (ef_0 m x0 x1 x2) kt
  have pre106 : ∀ t, Steps p.tables e below (s₁.setTop (mkF m 1 #[.val (.int x0), .val (.int x1), .val (.int x2), .unset, .unset, .unset, .unset, .unset, .unset, .unset] [(.int (2 : Int32))])) t → Steps p.tables e below (s₁.setTop (entryFrame m #[(.int x0), (.int x1), (.int x2)] maxLocals)) t := fun t kt => by
    refine pre0 _ ?_
    show Steps p.tables e below (s₁.setTop (mkF m 0 #[.val (.int x0), .val (.int x1), .val (.int x2), .unset, .unset, .unset, .unset, .unset, .unset, .unset] [])) _
    refine XS.iconst X0.here hx rfl (hb hby at_0) ?_
    show Steps p.tables e below (s₁.setTop (mkF m 1 #[.val (.int x0), .val (.int x1), .val (.int x2), .unset, .unset, .unset, .unset, .unset, .unset, .unset] [(.int (2 : Int32))])) _
    exact kt
  obtain ⟨T107, h107, k107, X107, e107, E107, A107, st107⟩ := newP X0 hx hZ (hw _ (List.mem_of_getElem? (i := 0) rfl)) e0 (g := (mkF m 1 #[.val (.int x0), .val (.int x1), .val (.int x2), .unset, .unset, .unset, .unset, .unset, .unset, .unset] [(.int (2 : Int32))])) rfl (hb hby at_1) rfl (by decide) (cap := 2) (by decide) (by decide) (by decide) (by decide)
  obtain ⟨b107, g107⟩ : ∃ z, z = h0.size := ⟨_, rfl⟩
  have g_b107 : n0 ≤ b107 := Nat.le_trans Z0 (Nat.le_of_eq g107.symm)
  have sz_b107 : h0.size ≤ b107 := Nat.le_of_eq g107.symm
  rw [← g107] at A107 st107
  have F107_0 := S_C.ext E107
  have Zs107 : n0 ≤ h107.size := Nat.le_trans Z0 E107.1
  have K0 := Keep.refl h0 []
  have K107 := K0.ext E107
  have V_b107 : Arv Z h107 b107 k107 .char (2 : Int32) [(.int (0 : Int32)), (.int (0 : Int32))] (.int (0 : Int32)) := (Arv.new A107 (by decide)).pad (pad_rep [] (.int (0 : Int32)) 2)
  have pre107 : ∀ t, Steps p.tables e below (T107.setTop (mkF m 3 #[.val (.int x0), .val (.int x1), .val (.int x2), .unset, .unset, .unset, .unset, .unset, .unset, .unset] [(.ref b107)])) t → Steps p.tables e below (s₁.setTop (entryFrame m #[(.int x0), (.int x1), (.int x2)] maxLocals)) t := fun t kt => pre106 _ (st107 t kt)
  have pre108 : ∀ t, Steps p.tables e below (T107.setTop (mkF m 11 #[.val (.int x0), .val (.int x1), .val (.int x2), .unset, .unset, .unset, .unset, .unset, .unset, .unset] [(.int ((x0 &&& (255 : Int32)).toUInt32.toUInt16.toUInt32.toInt32)), (.int (0 : Int32)), (.ref b107), (.ref b107)])) t → Steps p.tables e below (s₁.setTop (entryFrame m #[(.int x0), (.int x1), (.int x2)] maxLocals)) t := fun t kt => by
    refine pre107 _ ?_
    show Steps p.tables e below (T107.setTop (mkF m 3 #[.val (.int x0), .val (.int x1), .val (.int x2), .unset, .unset, .unset, .unset, .unset, .unset, .unset] [(.ref b107)])) _
    refine XS.dup X107.here hx rfl (hb hby at_3) rfl rfl ?_
    show Steps p.tables e below (T107.setTop (mkF m 4 #[.val (.int x0), .val (.int x1), .val (.int x2), .unset, .unset, .unset, .unset, .unset, .unset, .unset] [(.ref b107), (.ref b107)])) _
    refine XS.iconst X107.here hx rfl (hb hby at_4) ?_
    show Steps p.tables e below (T107.setTop (mkF m 5 #[.val (.int x0), .val (.int x1), .val (.int x2), .unset, .unset, .unset, .unset, .unset, .unset, .unset] [(.int (0 : Int32)), (.ref b107), (.ref b107)])) _
    refine XS.iloadN X107.here hx rfl (hb hby at_5) rfl ?_
    show Steps p.tables e below (T107.setTop (mkF m 6 #[.val (.int x0), .val (.int x1), .val (.int x2), .unset, .unset, .unset, .unset, .unset, .unset, .unset] [(.int x0), (.int (0 : Int32)), (.ref b107), (.ref b107)])) _
    refine XS.sipush X107.here hx rfl (hb hby at_6) ?_
    show Steps p.tables e below (T107.setTop (mkF m 9 #[.val (.int x0), .val (.int x1), .val (.int x2), .unset, .unset, .unset, .unset, .unset, .unset, .unset] [(.int (255 : Int32)), (.int x0), (.int (0 : Int32)), (.ref b107), (.ref b107)])) _
    refine XS.iand X107.here hx rfl (hb hby at_9) rfl ?_
    show Steps p.tables e below (T107.setTop (mkF m 10 #[.val (.int x0), .val (.int x1), .val (.int x2), .unset, .unset, .unset, .unset, .unset, .unset, .unset] [(.int (x0 &&& (255 : Int32))), (.int (0 : Int32)), (.ref b107), (.ref b107)])) _
    refine XS.i2c X107.here hx rfl (hb hby at_10) rfl ?_
    show Steps p.tables e below (T107.setTop (mkF m 11 #[.val (.int x0), .val (.int x1), .val (.int x2), .unset, .unset, .unset, .unset, .unset, .unset, .unset] [(.int ((x0 &&& (255 : Int32)).toUInt32.toUInt16.toUInt32.toInt32)), (.int (0 : Int32)), (.ref b107), (.ref b107)])) _
    exact kt
  have Vo_b107_109 := V_b107
  obtain ⟨cl_b107_109, Ar_b107_109, q_b107_109, S_b107_109, M_b107_109, H_b107_109, G_b107_109⟩ := Vo_b107_109
  have hin109 : ¬ ((0 : Int32) < 0 ∨ cl_b107_109.slots.size ≤ ((0 : Int32)).toNatClampNeg) := inb_of S_b107_109 ⟨by decide, by decide⟩
  obtain ⟨T109, h109, X109, e109, W109, st109⟩ := stC X107 hx hZ e107 Ar_b107_109 (j := (0 : Int32)) hin109 (g := (mkF m 11 #[.val (.int x0), .val (.int x1), .val (.int x2), .unset, .unset, .unset, .unset, .unset, .unset, .unset] [(.int ((x0 &&& (255 : Int32)).toUInt32.toUInt16.toUInt32.toInt32)), (.int (0 : Int32)), (.ref b107), (.ref b107)])) rfl rfl (hb hby at_11)
  have V109_b107 : Arv Z h109 b107 k107 .char (2 : Int32) [(.int (nar .char ((x0 &&& (255 : Int32)).toUInt32.toUInt16.toUInt32.toInt32))), (.int (0 : Int32))] (.int (0 : Int32)) := Arv.set Ar_b107_109 q_b107_109 S_b107_109 M_b107_109 H_b107_109 G_b107_109 (fits_nar_char _) W109 0 rfl (Nat.le_of_ble_eq_true rfl)
  have F109_0 := F107_0.wr W109
  have F109_1 := V109_b107
  have Zs109 : n0 ≤ h109.size := Nat.le_trans Zs107 (Keep.of_wr W109).1
  have K109 := K107.wr W109 (Or.inr sz_b107)
  have N109 := Fr.snoc X109 N0 g_b107
  have pre109 : ∀ t, Steps p.tables e below (T109.setTop (mkF m 12 #[.val (.int x0), .val (.int x1), .val (.int x2), .unset, .unset, .unset, .unset, .unset, .unset, .unset] [(.ref b107)])) t → Steps p.tables e below (s₁.setTop (entryFrame m #[(.int x0), (.int x1), (.int x2)] maxLocals)) t := fun t kt => pre108 _ (st109 t kt)
  have pre110 : ∀ t, Steps p.tables e below (T109.setTop (mkF m 20 #[.val (.int x0), .val (.int x1), .val (.int x2), .unset, .unset, .unset, .unset, .unset, .unset, .unset] [(.int ((x1 &&& (255 : Int32)).toUInt32.toUInt16.toUInt32.toInt32)), (.int (1 : Int32)), (.ref b107), (.ref b107)])) t → Steps p.tables e below (s₁.setTop (entryFrame m #[(.int x0), (.int x1), (.int x2)] maxLocals)) t := fun t kt => by
    refine pre109 _ ?_
    show Steps p.tables e below (T109.setTop (mkF m 12 #[.val (.int x0), .val (.int x1), .val (.int x2), .unset, .unset, .unset, .unset, .unset, .unset, .unset] [(.ref b107)])) _
    refine XS.dup X109.here hx rfl (hb hby at_12) rfl rfl ?_
    show Steps p.tables e below (T109.setTop (mkF m 13 #[.val (.int x0), .val (.int x1), .val (.int x2), .unset, .unset, .unset, .unset, .unset, .unset, .unset] [(.ref b107), (.ref b107)])) _
    refine XS.iconst X109.here hx rfl (hb hby at_13) ?_
    show Steps p.tables e below (T109.setTop (mkF m 14 #[.val (.int x0), .val (.int x1), .val (.int x2), .unset, .unset, .unset, .unset, .unset, .unset, .unset] [(.int (1 : Int32)), (.ref b107), (.ref b107)])) _
    refine XS.iloadN X109.here hx rfl (hb hby at_14) rfl ?_
    show Steps p.tables e below (T109.setTop (mkF m 15 #[.val (.int x0), .val (.int x1), .val (.int x2), .unset, .unset, .unset, .unset, .unset, .unset, .unset] [(.int x1), (.int (1 : Int32)), (.ref b107), (.ref b107)])) _
    refine XS.sipush X109.here hx rfl (hb hby at_15) ?_
    show Steps p.tables e below (T109.setTop (mkF m 18 #[.val (.int x0), .val (.int x1), .val (.int x2), .unset, .unset, .unset, .unset, .unset, .unset, .unset] [(.int (255 : Int32)), (.int x1), (.int (1 : Int32)), (.ref b107), (.ref b107)])) _
    refine XS.iand X109.here hx rfl (hb hby at_18) rfl ?_
    show Steps p.tables e below (T109.setTop (mkF m 19 #[.val (.int x0), .val (.int x1), .val (.int x2), .unset, .unset, .unset, .unset, .unset, .unset, .unset] [(.int (x1 &&& (255 : Int32))), (.int (1 : Int32)), (.ref b107), (.ref b107)])) _
    refine XS.i2c X109.here hx rfl (hb hby at_19) rfl ?_
    show Steps p.tables e below (T109.setTop (mkF m 20 #[.val (.int x0), .val (.int x1), .val (.int x2), .unset, .unset, .unset, .unset, .unset, .unset, .unset] [(.int ((x1 &&& (255 : Int32)).toUInt32.toUInt16.toUInt32.toInt32)), (.int (1 : Int32)), (.ref b107), (.ref b107)])) _
    exact kt
  have Vo_b107_111 := F109_1
  obtain ⟨cl_b107_111, Ar_b107_111, q_b107_111, S_b107_111, M_b107_111, H_b107_111, G_b107_111⟩ := Vo_b107_111
  have hin111 : ¬ ((1 : Int32) < 0 ∨ cl_b107_111.slots.size ≤ ((1 : Int32)).toNatClampNeg) := inb_of S_b107_111 ⟨by decide, by decide⟩
  obtain ⟨T111, h111, X111, e111, W111, st111⟩ := stC X109 hx hZ e109 Ar_b107_111 (j := (1 : Int32)) hin111 (g := (mkF m 20 #[.val (.int x0), .val (.int x1), .val (.int x2), .unset, .unset, .unset, .unset, .unset, .unset, .unset] [(.int ((x1 &&& (255 : Int32)).toUInt32.toUInt16.toUInt32.toInt32)), (.int (1 : Int32)), (.ref b107), (.ref b107)])) rfl rfl (hb hby at_20)
  have V111_b107 : Arv Z h111 b107 k107 .char (2 : Int32) [(.int (nar .char ((x0 &&& (255 : Int32)).toUInt32.toUInt16.toUInt32.toInt32))), (.int (nar .char ((x1 &&& (255 : Int32)).toUInt32.toUInt16.toUInt32.toInt32)))] (.int (0 : Int32)) := Arv.set Ar_b107_111 q_b107_111 S_b107_111 M_b107_111 H_b107_111 G_b107_111 (fits_nar_char _) W111 1 rfl (Nat.le_of_ble_eq_true rfl)
  have F111_0 := F109_0.wr W111
  have F111_1 := V111_b107
  have Zs111 : n0 ≤ h111.size := Nat.le_trans Zs109 (Keep.of_wr W111).1
  have K111 := K109.wr W111 (Or.inr sz_b107)
  have N111 := Fr.snoc X111 N109 g_b107
  have pre111 : ∀ t, Steps p.tables e below (T111.setTop (mkF m 21 #[.val (.int x0), .val (.int x1), .val (.int x2), .unset, .unset, .unset, .unset, .unset, .unset, .unset] [(.ref b107)])) t → Steps p.tables e below (s₁.setTop (entryFrame m #[(.int x0), (.int x1), (.int x2)] maxLocals)) t := fun t kt => pre110 _ (st111 t kt)
  obtain ⟨c0, e_c0⟩ : ∃ z : Int32, z = (nar .char ((x0 &&& (255 : Int32)).toUInt32.toUInt16.toUInt32.toInt32)) := ⟨_, rfl⟩
  obtain ⟨c1, e_c1⟩ : ∃ z : Int32, z = (nar .char ((x1 &&& (255 : Int32)).toUInt32.toUInt16.toUInt32.toInt32)) := ⟨_, rfl⟩
  have Vd : Arv Z h111 b107 k107 .char (2 : Int32) [(.int c0), (.int c1)] (.int (0 : Int32)) := by
    rw [e_c0, e_c1]
    exact F111_1
  have hc0 : ¬ (255 : Int32) < c0 := by rw [e_c0]; exact own_c2 x0
  have hc1 : ¬ (255 : Int32) < c1 := by rw [e_c1]; exact own_c2 x1
  have pre113 : ∀ t, Steps p.tables e below (T111.setTop (mkF m 22 #[.val (.int x0), .val (.int x1), .val (.int x2), .val (.ref b107), .unset, .unset, .unset, .unset, .unset, .unset] [])) t → Steps p.tables e below (s₁.setTop (entryFrame m #[(.int x0), (.int x1), (.int x2)] maxLocals)) t := fun t kt => by
    refine pre111 _ ?_
    show Steps p.tables e below (T111.setTop (mkF m 21 #[.val (.int x0), .val (.int x1), .val (.int x2), .unset, .unset, .unset, .unset, .unset, .unset, .unset] [(.ref b107)])) _
    refine XS.astoreN X111.here hx rfl (hb hby at_21) rfl rfl (l' := #[.val (.int x0), .val (.int x1), .val (.int x2), .val (.ref b107), .unset, .unset, .unset, .unset, .unset, .unset]) rfl ?_
    show Steps p.tables e below (T111.setTop (mkF m 22 #[.val (.int x0), .val (.int x1), .val (.int x2), .val (.ref b107), .unset, .unset, .unset, .unset, .unset, .unset] [])) _
    exact kt
  obtain ⟨T114, h114, X114, e114, E114, A114, D114, -, st114⟩ := newO X111 hx hZ hown (hw _ (List.mem_of_getElem? (i := 1) rfl)) (hw _ (List.mem_of_getElem? (i := 2) rfl)) (hw _ (List.mem_of_getElem? (i := 3) rfl)) e111 (g := (mkF m 22 #[.val (.int x0), .val (.int x1), .val (.int x2), .val (.ref b107), .unset, .unset, .unset, .unset, .unset, .unset] [])) rfl (hb hby at_22) (by decide) (by decide)
  obtain ⟨b114, g114⟩ : ∃ z, z = h111.size := ⟨_, rfl⟩
  have ne_b107_b114 : b107 ≠ b114 := Nat.ne_of_lt (Nat.lt_of_lt_of_le Vd.lt (Nat.le_of_eq g114.symm))
  have g_b114 : n0 ≤ b114 := Nat.le_trans Zs111 (Nat.le_of_eq g114.symm)
  have sz_b114 : h0.size ≤ b114 := Nat.le_trans K111.1 (Nat.le_of_eq g114.symm)
  rw [← g114] at A114 D114 st114
  have F114_0 := F111_0.ext E114
  have F114_1 := Vd.ext E114
  have Zs114 : n0 ≤ h114.size := Nat.le_trans Zs111 E114.1
  have K114 := K111.ext E114
  have F_name_b114 : Fld Z h114 b114 "com/example/pertinet/pertinet/satisfiability/BooleanVariable" "name" "Ljava/lang/String;" .null := D114 (Or.inr (hw _ (List.mem_of_getElem? (i := 38) rfl))) (ty := (.object "java/lang/String")) (by decide)
  have pre114 : ∀ t, Steps p.tables e below (T114.setTop (mkF m 25 #[.val (.int x0), .val (.int x1), .val (.int x2), .val (.ref b107), .unset, .unset, .unset, .unset, .unset, .unset] [(.ref b114)])) t → Steps p.tables e below (s₁.setTop (entryFrame m #[(.int x0), (.int x1), (.int x2)] maxLocals)) t := fun t kt => pre113 _ (st114 t kt)
  have pre115 : ∀ t, Steps p.tables e below (T114.setTop (mkF m 26 #[.val (.int x0), .val (.int x1), .val (.int x2), .val (.ref b107), .unset, .unset, .unset, .unset, .unset, .unset] [(.ref b114), (.ref b114)])) t → Steps p.tables e below (s₁.setTop (entryFrame m #[(.int x0), (.int x1), (.int x2)] maxLocals)) t := fun t kt => by
    refine pre114 _ ?_
    show Steps p.tables e below (T114.setTop (mkF m 25 #[.val (.int x0), .val (.int x1), .val (.int x2), .val (.ref b107), .unset, .unset, .unset, .unset, .unset, .unset] [(.ref b114)])) _
    refine XS.dup X114.here hx rfl (hb hby at_25) rfl rfl ?_
    show Steps p.tables e below (T114.setTop (mkF m 26 #[.val (.int x0), .val (.int x1), .val (.int x2), .val (.ref b107), .unset, .unset, .unset, .unset, .unset, .unset] [(.ref b114), (.ref b114)])) _
    exact kt
  obtain ⟨T116, h116, X116, e116, E116, A116, D116, -, st116⟩ := newO X114 hx hZ hown (hw _ (List.mem_of_getElem? (i := 4) rfl)) (hw _ (List.mem_of_getElem? (i := 5) rfl)) (hw _ (List.mem_of_getElem? (i := 6) rfl)) e114 (g := (mkF m 26 #[.val (.int x0), .val (.int x1), .val (.int x2), .val (.ref b107), .unset, .unset, .unset, .unset, .unset, .unset] [(.ref b114), (.ref b114)])) rfl (hb hby at_26) (by decide) (by decide)
  obtain ⟨b116, g116⟩ : ∃ z, z = h114.size := ⟨_, rfl⟩
  have ne_b107_b116 : b107 ≠ b116 := Nat.ne_of_lt (Nat.lt_of_lt_of_le F114_1.lt (Nat.le_of_eq g116.symm))
  have ne_b114_b116 : b114 ≠ b116 := Nat.ne_of_lt (Nat.lt_of_lt_of_le A114.lt (Nat.le_of_eq g116.symm))
  have g_b116 : n0 ≤ b116 := Nat.le_trans Zs114 (Nat.le_of_eq g116.symm)
  have sz_b116 : h0.size ≤ b116 := Nat.le_trans K114.1 (Nat.le_of_eq g116.symm)
  rw [← g116] at A116 D116 st116
  have F116_0 := F114_0.ext E116
  have F116_1 := F114_1.ext E116
  have F116_2 := A114.ext E116
  have F116_3 := F_name_b114.ext E116
  have Zs116 : n0 ≤ h116.size := Nat.le_trans Zs114 E116.1
  have K116 := K114.ext E116
  have F_coder_b116 : Fld Z h116 b116 "java/lang/String" "coder" "B" (.int (0 : Int32)) := D116 (Or.inr (hw _ (List.mem_of_getElem? (i := 30) rfl))) (ty := .byte) (by decide)
  have F_value_b116 : Fld Z h116 b116 "java/lang/String" "value" "[B" .null := D116 (Or.inr (hw _ (List.mem_of_getElem? (i := 32) rfl))) (ty := (.array .byte)) (by decide)
  have pre116 : ∀ t, Steps p.tables e below (T116.setTop (mkF m 29 #[.val (.int x0), .val (.int x1), .val (.int x2), .val (.ref b107), .unset, .unset, .unset, .unset, .unset, .unset] [(.ref b116), (.ref b114), (.ref b114)])) t → Steps p.tables e below (s₁.setTop (entryFrame m #[(.int x0), (.int x1), (.int x2)] maxLocals)) t := fun t kt => pre115 _ (st116 t kt)
  have pre117 : ∀ t, Steps p.tables e below (T116.setTop (mkF m 31 #[.val (.int x0), .val (.int x1), .val (.int x2), .val (.ref b107), .unset, .unset, .unset, .unset, .unset, .unset] [(.ref b107), (.ref b116), (.ref b116), (.ref b114), (.ref b114)])) t → Steps p.tables e below (s₁.setTop (entryFrame m #[(.int x0), (.int x1), (.int x2)] maxLocals)) t := fun t kt => by
    refine pre116 _ ?_
    show Steps p.tables e below (T116.setTop (mkF m 29 #[.val (.int x0), .val (.int x1), .val (.int x2), .val (.ref b107), .unset, .unset, .unset, .unset, .unset, .unset] [(.ref b116), (.ref b114), (.ref b114)])) _
    refine XS.dup X116.here hx rfl (hb hby at_29) rfl rfl ?_
    show Steps p.tables e below (T116.setTop (mkF m 30 #[.val (.int x0), .val (.int x1), .val (.int x2), .val (.ref b107), .unset, .unset, .unset, .unset, .unset, .unset] [(.ref b116), (.ref b116), (.ref b114), (.ref b114)])) _
    refine XS.aloadN X116.here hx rfl (hb hby at_30) rfl rfl ?_
    show Steps p.tables e below (T116.setTop (mkF m 31 #[.val (.int x0), .val (.int x1), .val (.int x2), .val (.ref b107), .unset, .unset, .unset, .unset, .unset, .unset] [(.ref b107), (.ref b116), (.ref b116), (.ref b114), (.ref b114)])) _
    exact kt
  obtain ⟨v118, _, ⟨T118, L118, k118, n118⟩, -, X118, ⟨Lc118, hQ118, l118, y118, z118⟩, st118⟩ := X116.specialBack hx (y := (⟨"java/lang/String", "<init>", "([C)V"⟩ : MethodName)) rfl hown (mvT hZ (hw _ (List.mem_of_getElem? (i := 7) rfl))) (mvT hZ (hw _ (List.mem_of_getElem? (i := 8) rfl))) (mvT hZ (hw _ (List.mem_of_getElem? (i := 9) rfl))) (by decide) (backOf (W := 3) (rm1 l Z aZ hw [] b116 b107 k107 c0 c1 cs h116 n0 Zs116 F_value_b116 F_coder_b116 A116 g_b116 F116_1 ne_b107_b116 hc0 hc1 F116_0 hcs) hZ (hw _ (List.mem_of_getElem? (i := 9) rfl)) (hw _ (List.mem_of_getElem? (i := 6) rfl)) (by decide) (by decide)) (g := (mkF m 31 #[.val (.int x0), .val (.int x1), .val (.int x2), .val (.ref b107), .unset, .unset, .unset, .unset, .unset, .unset] [(.ref b107), (.ref b116), (.ref b116), (.ref b114), (.ref b114)])) rfl (by rw [hml]; rfl) (Steps.refl _) (a := b116) (argsL := [(.ref b107)]) (rest := [(.ref b116), (.ref b114), (.ref b114)]) (lenOf pd_0 rfl) rfl (by show 2 * 0 + _ ≤ _; exact Nat.le_of_eq rfl) (hb hby at_31) (fun _ _ => ⟨rfl, e116, (by decide : 3 + 1 ≤ _), (by decide : 7 + 2 ≤ _)⟩)
  dsimp only [Pt.U, Pt.locs, Pt.cells, Pt.slots] at X118 l118 y118 z118 st118 hQ118
  rw [l118, y118, z118] at X118
  clear l118 y118 z118
  obtain ⟨vq118, N118q, Kc118⟩ := hQ118
  rw [vq118] at st118
  have N118 := Fr.app N111 N118q
  have pre118 : ∀ t, Steps p.tables e below (T118.setTop (mkF m 34 #[.val (.int x0), .val (.int x1), .val (.int x2), .val (.ref b107), .unset, .unset, .unset, .unset, .unset, .unset] [(.ref b116), (.ref b114), (.ref b114)])) t → Steps p.tables e below (s₁.setTop (entryFrame m #[(.int x0), (.int x1), (.int x2)] maxLocals)) t := fun t kt => pre117 _ (st118.trans kt)
  have Zs118 : n0 ≤ T118.heap.size := Nat.le_trans Zs116 Kc118.1
  have F118_0 := own_sta_keep F116_0 Kc118 (by intro x hx c hc; simp only [List.mem_cons, List.not_mem_nil, or_false] at hx; rcases hx with rfl <;> first | exact A116.nostat c hc)
  have F118_1 := F116_1.keep Kc118 (by intro q; simp only [List.mem_cons, List.not_mem_nil, or_false] at q; exact ne_b107_b116 q)
  have F118_2 := F116_2.keep Kc118
  have F118_3 := F116_3.keep Kc118 (by intro q; simp only [List.mem_cons, List.not_mem_nil, or_false] at q; exact ne_b114_b116 q)
  have F118_4 := A116.keep Kc118
  have K118 := K116.trans Kc118 (by intro x hx; simp only [List.mem_cons, List.not_mem_nil, or_false] at hx; rcases hx with rfl <;> first | exact Or.inr sz_b116)
  obtain ⟨v120, _, ⟨T120, L120, k120, n120⟩, -, X120, ⟨Lc120, hQ120, l120, y120, z120⟩, st120⟩ := X118.specialBack hx (y := (⟨"com/example/pertinet/pertinet/satisfiability/BooleanVariable", "<init>", "(Ljava/lang/String;)V"⟩ : MethodName)) rfl hown (mvT hZ (hw _ (List.mem_of_getElem? (i := 33) rfl))) (mvT hZ (hw _ (List.mem_of_getElem? (i := 34) rfl))) (mvT hZ (hw _ (List.mem_of_getElem? (i := 35) rfl))) (by decide) (backOf (W := 1) (rm7 l Z aZ hw [] b114 b116  T118.heap n0 Zs118 F118_3 F118_2 g_b114) hZ (hw _ (List.mem_of_getElem? (i := 35) rfl)) (hw _ (List.mem_of_getElem? (i := 3) rfl)) (by decide) (by decide)) (g := (mkF m 34 #[.val (.int x0), .val (.int x1), .val (.int x2), .val (.ref b107), .unset, .unset, .unset, .unset, .unset, .unset] [(.ref b116), (.ref b114), (.ref b114)])) rfl (by rw [hml]; rfl) (Steps.refl _) (a := b114) (argsL := [(.ref b116)]) (rest := [(.ref b114)]) (lenOf pd_6 rfl) rfl (by show 2 * 0 + _ ≤ _; exact Nat.le_of_eq rfl) (hb hby at_34) (fun _ _ => ⟨rfl, rfl, (by decide : 4 + 0 ≤ _), (by decide : 9 + 0 ≤ _)⟩)
  dsimp only [Pt.U, Pt.locs, Pt.cells, Pt.slots] at X120 l120 y120 z120 st120 hQ120
  rw [l120, y120, z120] at X120
  clear l120 y120 z120
  obtain ⟨vq120, N120q, Kc120, Fq120_name⟩ := hQ120
  rw [vq120] at st120
  have N120 := Fr.app N118 N120q
  have pre120 : ∀ t, Steps p.tables e below (T120.setTop (mkF m 37 #[.val (.int x0), .val (.int x1), .val (.int x2), .val (.ref b107), .unset, .unset, .unset, .unset, .unset, .unset] [(.ref b114)])) t → Steps p.tables e below (s₁.setTop (entryFrame m #[(.int x0), (.int x1), (.int x2)] maxLocals)) t := fun t kt => pre118 _ (st120.trans kt)
  have Zs120 : n0 ≤ T120.heap.size := Nat.le_trans Zs118 Kc120.1
  have F120_0 := own_sta_keep F118_0 Kc120 (by intro x hx c hc; simp only [List.mem_cons, List.not_mem_nil, or_false] at hx; rcases hx with rfl <;> first | exact F118_2.nostat c hc)
  have F120_1 := F118_1.keep Kc120 (by intro q; simp only [List.mem_cons, List.not_mem_nil, or_false] at q; exact ne_b107_b114 q)
  have F120_2 := F118_2.keep Kc120
  have F120_3 := F118_4.keep Kc120
  have K120 := K118.trans Kc120 (by intro x hx; simp only [List.mem_cons, List.not_mem_nil, or_false] at hx; rcases hx with rfl <;> first | exact Or.inr sz_b114)
  have pre121 : ∀ t, Steps p.tables e below (T120.setTop (mkF m 39 #[.val (.int x0), .val (.int x1), .val (.int x2), .val (.ref b107), .val (.ref b114), .unset, .unset, .unset, .unset, .unset] [])) t → Steps p.tables e below (s₁.setTop (entryFrame m #[(.int x0), (.int x1), (.int x2)] maxLocals)) t := fun t kt => by
    refine pre120 _ ?_
    show Steps p.tables e below (T120.setTop (mkF m 37 #[.val (.int x0), .val (.int x1), .val (.int x2), .val (.ref b107), .unset, .unset, .unset, .unset, .unset, .unset] [(.ref b114)])) _
    refine XS.astore X120.here hx rfl (hb hby at_37) rfl rfl (l' := #[.val (.int x0), .val (.int x1), .val (.int x2), .val (.ref b107), .val (.ref b114), .unset, .unset, .unset, .unset, .unset]) rfl ?_
    show Steps p.tables e below (T120.setTop (mkF m 39 #[.val (.int x0), .val (.int x1), .val (.int x2), .val (.ref b107), .val (.ref b114), .unset, .unset, .unset, .unset, .unset] [])) _
    exact kt
  obtain ⟨T122, h122, X122, e122, E122, A122, D122, -, st122⟩ := newO X120 hx hZ hown (hw _ (List.mem_of_getElem? (i := 1) rfl)) (hw _ (List.mem_of_getElem? (i := 2) rfl)) (hw _ (List.mem_of_getElem? (i := 3) rfl)) rfl (g := (mkF m 39 #[.val (.int x0), .val (.int x1), .val (.int x2), .val (.ref b107), .val (.ref b114), .unset, .unset, .unset, .unset, .unset] [])) rfl (hb hby at_39) (by decide) (by decide)
  obtain ⟨b122, g122⟩ : ∃ z, z = T120.heap.size := ⟨_, rfl⟩
  have ne_b107_b122 : b107 ≠ b122 := Nat.ne_of_lt (Nat.lt_of_lt_of_le F120_1.lt (Nat.le_of_eq g122.symm))
  have ne_b114_b122 : b114 ≠ b122 := Nat.ne_of_lt (Nat.lt_of_lt_of_le F120_2.lt (Nat.le_of_eq g122.symm))
  have ne_b116_b122 : b116 ≠ b122 := Nat.ne_of_lt (Nat.lt_of_lt_of_le F120_3.lt (Nat.le_of_eq g122.symm))
  have g_b122 : n0 ≤ b122 := Nat.le_trans Zs120 (Nat.le_of_eq g122.symm)
  have sz_b122 : h0.size ≤ b122 := Nat.le_trans K120.1 (Nat.le_of_eq g122.symm)
  rw [← g122] at A122 D122 st122
  have F122_0 := F120_0.ext E122
  have F122_1 := F120_1.ext E122
  have F122_2 := F120_2.ext E122
  have F122_3 := F120_3.ext E122
  have F122_4 := Fq120_name.ext E122
  have Zs122 : n0 ≤ h122.size := Nat.le_trans Zs120 E122.1
  have K122 := K120.ext E122
  have F_name_b122 : Fld Z h122 b122 "com/example/pertinet/pertinet/satisfiability/BooleanVariable" "name" "Ljava/lang/String;" .null := D122 (Or.inr (hw _ (List.mem_of_getElem? (i := 38) rfl))) (ty := (.object "java/lang/String")) (by decide)
  have pre122 : ∀ t, Steps p.tables e below (T122.setTop (mkF m 42 #[.val (.int x0), .val (.int x1), .val (.int x2), .val (.ref b107), .val (.ref b114), .unset, .unset, .unset, .unset, .unset] [(.ref b122)])) t → Steps p.tables e below (s₁.setTop (entryFrame m #[(.int x0), (.int x1), (.int x2)] maxLocals)) t := fun t kt => pre121 _ (st122 t kt)
  have pre123 : ∀ t, Steps p.tables e below (T122.setTop (mkF m 49 #[.val (.int x0), .val (.int x1), .val (.int x2), .val (.ref b107), .val (.ref b114), .unset, .unset, .unset, .unset, .unset] [(.int ((x2 &&& (255 : Int32)).toUInt32.toUInt16.toUInt32.toInt32)), (.ref b122), (.ref b122)])) t → Steps p.tables e below (s₁.setTop (entryFrame m #[(.int x0), (.int x1), (.int x2)] maxLocals)) t := fun t kt => by
    refine pre122 _ ?_
    show Steps p.tables e below (T122.setTop (mkF m 42 #[.val (.int x0), .val (.int x1), .val (.int x2), .val (.ref b107), .val (.ref b114), .unset, .unset, .unset, .unset, .unset] [(.ref b122)])) _
    refine XS.dup X122.here hx rfl (hb hby at_42) rfl rfl ?_
    show Steps p.tables e below (T122.setTop (mkF m 43 #[.val (.int x0), .val (.int x1), .val (.int x2), .val (.ref b107), .val (.ref b114), .unset, .unset, .unset, .unset, .unset] [(.ref b122), (.ref b122)])) _
    refine XS.iloadN X122.here hx rfl (hb hby at_43) rfl ?_
    show Steps p.tables e below (T122.setTop (mkF m 44 #[.val (.int x0), .val (.int x1), .val (.int x2), .val (.ref b107), .val (.ref b114), .unset, .unset, .unset, .unset, .unset] [(.int x2), (.ref b122), (.ref b122)])) _
    refine XS.sipush X122.here hx rfl (hb hby at_44) ?_
    show Steps p.tables e below (T122.setTop (mkF m 47 #[.val (.int x0), .val (.int x1), .val (.int x2), .val (.ref b107), .val (.ref b114), .unset, .unset, .unset, .unset, .unset] [(.int (255 : Int32)), (.int x2), (.ref b122), (.ref b122)])) _
    refine XS.iand X122.here hx rfl (hb hby at_47) rfl ?_
    show Steps p.tables e below (T122.setTop (mkF m 48 #[.val (.int x0), .val (.int x1), .val (.int x2), .val (.ref b107), .val (.ref b114), .unset, .unset, .unset, .unset, .unset] [(.int (x2 &&& (255 : Int32))), (.ref b122), (.ref b122)])) _
    refine XS.i2c X122.here hx rfl (hb hby at_48) rfl ?_
    show Steps p.tables e below (T122.setTop (mkF m 49 #[.val (.int x0), .val (.int x1), .val (.int x2), .val (.ref b107), .val (.ref b114), .unset, .unset, .unset, .unset, .unset] [(.int ((x2 &&& (255 : Int32)).toUInt32.toUInt16.toUInt32.toInt32)), (.ref b122), (.ref b122)])) _
    exact kt
  obtain ⟨c2, e_c2⟩ : ∃ z : Int32, z = ((x2 &&& (255 : Int32)).toUInt32.toUInt16.toUInt32.toInt32) := ⟨_, rfl⟩
  have pre124 : ∀ t, Steps p.tables e below (T122.setTop (mkF m 49 #[.val (.int x0), .val (.int x1), .val (.int x2), .val (.ref b107), .val (.ref b114), .unset, .unset, .unset, .unset, .unset] [(.int c2), (.ref b122), (.ref b122)])) t → Steps p.tables e below (s₁.setTop (entryFrame m #[(.int x0), (.int x1), (.int x2)] maxLocals)) t := by rw [e_c2]; exact pre123
  have hc2 : ¬ (255 : Int32) < c2 := by rw [e_c2]; exact own_c x2
  obtain ⟨v126, _, ⟨T126, L126, k126, n126⟩, -, X126, ⟨Lc126, hQ126, l126, y126, z126⟩, st126⟩ := Jvm.LawKit.callS X122 hx (y := (⟨"java/lang/String", "valueOf", "(C)Ljava/lang/String;"⟩ : MethodName)) hown (mvT hZ (hw _ (List.mem_of_getElem? (i := 39) rfl))) (mvT hZ (hw _ (List.mem_of_getElem? (i := 40) rfl))) (mvT hZ (hw _ (List.mem_of_getElem? (i := 6) rfl))) (mvT hZ (hw _ (List.mem_of_getElem? (i := 41) rfl))) (by decide) (backOf (W := 2) (rm8 l Z aZ hw [] c2 cs h122 n0 Zs122 F122_0 hcs hc2) hZ (hw _ (List.mem_of_getElem? (i := 41) rfl)) (hw _ (List.mem_of_getElem? (i := 6) rfl)) (by decide) (by decide)) (g := (mkF m 49 #[.val (.int x0), .val (.int x1), .val (.int x2), .val (.ref b107), .val (.ref b114), .unset, .unset, .unset, .unset, .unset] [(.int c2), (.ref b122), (.ref b122)])) rfl (by rw [hml]; rfl) (argsL := [(.int c2)]) (rest := [(.ref b122), (.ref b122)]) (lenOf pd_7 rfl) rfl (by show 2 * 0 + _ ≤ _; exact Nat.le_of_eq rfl) (hb hby at_49) (fun _ _ => ⟨rfl, e122, (by decide : 5 + 2 ≤ _), (by decide : 10 + 5 ≤ _)⟩)
  dsimp only [Pt.U, Pt.locs, Pt.cells, Pt.slots] at X126 l126 y126 z126 st126 hQ126
  rw [l126, y126, z126] at X126
  clear l126 y126 z126
  obtain ⟨rb126, vq126, N126q, Kc126, sq126⟩ := hQ126
  rw [vq126] at st126
  have N126 := Fr.app N120 N126q
  have pre126 : ∀ t, Steps p.tables e below (T126.setTop (mkF m 52 #[.val (.int x0), .val (.int x1), .val (.int x2), .val (.ref b107), .val (.ref b114), .unset, .unset, .unset, .unset, .unset] [(.ref rb126), (.ref b122), (.ref b122)])) t → Steps p.tables e below (s₁.setTop (entryFrame m #[(.int x0), (.int x1), (.int x2)] maxLocals)) t := fun t kt => pre124 _ (st126 t kt)
  have Zs126 : n0 ≤ T126.heap.size := Nat.le_trans Zs122 Kc126.1
  have ne_b107_rb126 : b107 ≠ rb126 := Nat.ne_of_lt (Nat.lt_of_lt_of_le F122_1.lt sq126)
  have ne_b114_rb126 : b114 ≠ rb126 := Nat.ne_of_lt (Nat.lt_of_lt_of_le F122_2.lt sq126)
  have ne_b116_rb126 : b116 ≠ rb126 := Nat.ne_of_lt (Nat.lt_of_lt_of_le F122_3.lt sq126)
  have ne_b122_rb126 : b122 ≠ rb126 := Nat.ne_of_lt (Nat.lt_of_lt_of_le A122.lt sq126)
  have g_rb126 : n0 ≤ rb126 := Nat.le_trans Zs122 sq126
  have sz_rb126 : h0.size ≤ rb126 := Nat.le_trans K122.1 sq126
  have F126_0 := own_sta_keep F122_0 Kc126 (by simp)
  have F126_1 := F122_1.keep Kc126 (by simp)
  have F126_2 := F122_2.keep Kc126
  have F126_3 := F122_3.keep Kc126
  have F126_4 := F122_4.keep Kc126 (by simp)
  have F126_5 := A122.keep Kc126
  have F126_6 := F_name_b122.keep Kc126 (by simp)
  have K126 := K122.trans Kc126 (by simp)
  obtain ⟨v128, _, ⟨T128, L128, k128, n128⟩, -, X128, ⟨Lc128, hQ128, l128, y128, z128⟩, st128⟩ := X126.specialBack hx (y := (⟨"com/example/pertinet/pertinet/satisfiability/BooleanVariable", "<init>", "(Ljava/lang/String;)V"⟩ : MethodName)) rfl hown (mvT hZ (hw _ (List.mem_of_getElem? (i := 33) rfl))) (mvT hZ (hw _ (List.mem_of_getElem? (i := 34) rfl))) (mvT hZ (hw _ (List.mem_of_getElem? (i := 35) rfl))) (by decide) (backOf (W := 1) (rm7 l Z aZ hw [] b122 rb126  T126.heap n0 Zs126 F126_6 F126_5 g_b122) hZ (hw _ (List.mem_of_getElem? (i := 35) rfl)) (hw _ (List.mem_of_getElem? (i := 3) rfl)) (by decide) (by decide)) (g := (mkF m 52 #[.val (.int x0), .val (.int x1), .val (.int x2), .val (.ref b107), .val (.ref b114), .unset, .unset, .unset, .unset, .unset] [(.ref rb126), (.ref b122), (.ref b122)])) rfl (by rw [hml]; rfl) (Steps.refl _) (a := b122) (argsL := [(.ref rb126)]) (rest := [(.ref b122)]) (lenOf pd_6 rfl) rfl (by show 2 * 0 + _ ≤ _; exact Nat.le_of_eq rfl) (hb hby at_52) (fun _ _ => ⟨rfl, rfl, (by decide : 7 + 0 ≤ _), (by decide : 15 + 0 ≤ _)⟩)
  dsimp only [Pt.U, Pt.locs, Pt.cells, Pt.slots] at X128 l128 y128 z128 st128 hQ128
  rw [l128, y128, z128] at X128
  clear l128 y128 z128
  obtain ⟨vq128, N128q, Kc128, Fq128_name⟩ := hQ128
  rw [vq128] at st128
  have N128 := Fr.app N126 N128q
  have pre128 : ∀ t, Steps p.tables e below (T128.setTop (mkF m 55 #[.val (.int x0), .val (.int x1), .val (.int x2), .val (.ref b107), .val (.ref b114), .unset, .unset, .unset, .unset, .unset] [(.ref b122)])) t → Steps p.tables e below (s₁.setTop (entryFrame m #[(.int x0), (.int x1), (.int x2)] maxLocals)) t := fun t kt => pre126 _ (st128.trans kt)
  have Zs128 : n0 ≤ T128.heap.size := Nat.le_trans Zs126 Kc128.1
  have F128_0 := own_sta_keep F126_0 Kc128 (by intro x hx c hc; simp only [List.mem_cons, List.not_mem_nil, or_false] at hx; rcases hx with rfl <;> first | exact F126_5.nostat c hc)
  have F128_1 := F126_1.keep Kc128 (by intro q; simp only [List.mem_cons, List.not_mem_nil, or_false] at q; exact ne_b107_b122 q)
  have F128_2 := F126_2.keep Kc128
  have F128_3 := F126_3.keep Kc128
  have F128_4 := F126_4.keep Kc128 (by intro q; simp only [List.mem_cons, List.not_mem_nil, or_false] at q; exact ne_b114_b122 q)
  have F128_5 := F126_5.keep Kc128
  have K128 := K126.trans Kc128 (by intro x hx; simp only [List.mem_cons, List.not_mem_nil, or_false] at hx; rcases hx with rfl <;> first | exact Or.inr sz_b122)
  have pre129 : ∀ t, Steps p.tables e below (T128.setTop (mkF m 59 #[.val (.int x0), .val (.int x1), .val (.int x2), .val (.ref b107), .val (.ref b114), .val (.ref b122), .unset, .unset, .unset, .unset] [(.ref b114)])) t → Steps p.tables e below (s₁.setTop (entryFrame m #[(.int x0), (.int x1), (.int x2)] maxLocals)) t := fun t kt => by
    refine pre128 _ ?_
    show Steps p.tables e below (T128.setTop (mkF m 55 #[.val (.int x0), .val (.int x1), .val (.int x2), .val (.ref b107), .val (.ref b114), .unset, .unset, .unset, .unset, .unset] [(.ref b122)])) _
    refine XS.astore X128.here hx rfl (hb hby at_55) rfl rfl (l' := #[.val (.int x0), .val (.int x1), .val (.int x2), .val (.ref b107), .val (.ref b114), .val (.ref b122), .unset, .unset, .unset, .unset]) rfl ?_
    show Steps p.tables e below (T128.setTop (mkF m 57 #[.val (.int x0), .val (.int x1), .val (.int x2), .val (.ref b107), .val (.ref b114), .val (.ref b122), .unset, .unset, .unset, .unset] [])) _
    refine XS.aload X128.here hx rfl (hb hby at_57) rfl rfl ?_
    show Steps p.tables e below (T128.setTop (mkF m 59 #[.val (.int x0), .val (.int x1), .val (.int x2), .val (.ref b107), .val (.ref b114), .val (.ref b122), .unset, .unset, .unset, .unset] [(.ref b114)])) _
    exact kt
  obtain ⟨v130, _, ⟨T130, L130, k130, n130⟩, -, X130, ⟨Lc130, hQ130, l130, y130, z130⟩, st130⟩ := Jvm.LawKit.callS X128 hx (y := (⟨"com/example/pertinet/pertinet/satisfiability/Formula", "of", "(Lcom/example/pertinet/pertinet/satisfiability/BooleanVariable;)Lcom/example/pertinet/pertinet/satisfiability/Formula;"⟩ : MethodName)) hown (mvT hZ (hw _ (List.mem_of_getElem? (i := 53) rfl))) (mvT hZ (hw _ (List.mem_of_getElem? (i := 54) rfl))) (mvT hZ (hw _ (List.mem_of_getElem? (i := 55) rfl))) (mvT hZ (hw _ (List.mem_of_getElem? (i := 56) rfl))) (by decide) (backOf (W := 0) (rm12 l Z aZ hw [] b114  T128.heap n0 Zs128 ) hZ (hw _ (List.mem_of_getElem? (i := 56) rfl)) (hw _ (List.mem_of_getElem? (i := 55) rfl)) (by decide) (by decide)) (g := (mkF m 59 #[.val (.int x0), .val (.int x1), .val (.int x2), .val (.ref b107), .val (.ref b114), .val (.ref b122), .unset, .unset, .unset, .unset] [(.ref b114)])) rfl (by rw [hml]; rfl) (argsL := [(.ref b114)]) (rest := []) (lenOf pd_11 rfl) rfl (by show 2 * 0 + _ ≤ _; exact Nat.le_of_eq rfl) (hb hby at_59) (fun _ _ => ⟨rfl, rfl, (by decide : 7 + 1 ≤ _), (by decide : 15 + 2 ≤ _)⟩)
  dsimp only [Pt.U, Pt.locs, Pt.cells, Pt.slots] at X130 l130 y130 z130 st130 hQ130
  rw [l130, y130, z130] at X130
  clear l130 y130 z130
  obtain ⟨rl130, vq130, N130q, Kc130, sq130, Eq130, Fa130, Fp130⟩ := hQ130
  rw [vq130] at st130
  have N130 := Fr.app N128 N130q
  have pre130 : ∀ t, Steps p.tables e below (T130.setTop (mkF m 62 #[.val (.int x0), .val (.int x1), .val (.int x2), .val (.ref b107), .val (.ref b114), .val (.ref b122), .unset, .unset, .unset, .unset] [(.ref rl130)])) t → Steps p.tables e below (s₁.setTop (entryFrame m #[(.int x0), (.int x1), (.int x2)] maxLocals)) t := fun t kt => pre129 _ (st130 t kt)
  have Zs130 : n0 ≤ T130.heap.size := Nat.le_trans Zs128 Kc130.1
  have ne_b107_rl130 : b107 ≠ rl130 := Nat.ne_of_lt (Nat.lt_of_lt_of_le F128_1.lt sq130)
  have ne_b114_rl130 : b114 ≠ rl130 := Nat.ne_of_lt (Nat.lt_of_lt_of_le F128_2.lt sq130)
  have ne_b116_rl130 : b116 ≠ rl130 := Nat.ne_of_lt (Nat.lt_of_lt_of_le F128_3.lt sq130)
  have ne_b122_rl130 : b122 ≠ rl130 := Nat.ne_of_lt (Nat.lt_of_lt_of_le F128_5.lt sq130)
  have g_rl130 : n0 ≤ rl130 := Nat.le_trans Zs128 sq130
  have sz_rl130 : h0.size ≤ rl130 := Nat.le_trans K128.1 sq130
  have F130_0 := own_sta_keep F128_0 Kc130 (by simp)
  have F130_1 := F128_1.keep Kc130 (by simp)
  have F130_2 := F128_2.keep Kc130
  have F130_3 := F128_3.keep Kc130
  have F130_4 := F128_4.keep Kc130 (by simp)
  have F130_5 := F128_5.keep Kc130
  have F130_6 := Fq128_name.keep Kc130 (by simp)
  have K130 := K128.trans Kc130 (by simp)
  have pre131 : ∀ t, Steps p.tables e below (T130.setTop (mkF m 66 #[.val (.int x0), .val (.int x1), .val (.int x2), .val (.ref b107), .val (.ref b114), .val (.ref b122), .val (.ref rl130), .unset, .unset, .unset] [(.ref b122)])) t → Steps p.tables e below (s₁.setTop (entryFrame m #[(.int x0), (.int x1), (.int x2)] maxLocals)) t := fun t kt => by
    refine pre130 _ ?_
    show Steps p.tables e below (T130.setTop (mkF m 62 #[.val (.int x0), .val (.int x1), .val (.int x2), .val (.ref b107), .val (.ref b114), .val (.ref b122), .unset, .unset, .unset, .unset] [(.ref rl130)])) _
    refine XS.astore X130.here hx rfl (hb hby at_62) rfl rfl (l' := #[.val (.int x0), .val (.int x1), .val (.int x2), .val (.ref b107), .val (.ref b114), .val (.ref b122), .val (.ref rl130), .unset, .unset, .unset]) rfl ?_
    show Steps p.tables e below (T130.setTop (mkF m 64 #[.val (.int x0), .val (.int x1), .val (.int x2), .val (.ref b107), .val (.ref b114), .val (.ref b122), .val (.ref rl130), .unset, .unset, .unset] [])) _
    refine XS.aload X130.here hx rfl (hb hby at_64) rfl rfl ?_
    show Steps p.tables e below (T130.setTop (mkF m 66 #[.val (.int x0), .val (.int x1), .val (.int x2), .val (.ref b107), .val (.ref b114), .val (.ref b122), .val (.ref rl130), .unset, .unset, .unset] [(.ref b122)])) _
    exact kt
  obtain ⟨v132, _, ⟨T132, L132, k132, n132⟩, -, X132, ⟨Lc132, hQ132, l132, y132, z132⟩, st132⟩ := Jvm.LawKit.callS X130 hx (y := (⟨"com/example/pertinet/pertinet/satisfiability/Formula", "of", "(Lcom/example/pertinet/pertinet/satisfiability/BooleanVariable;)Lcom/example/pertinet/pertinet/satisfiability/Formula;"⟩ : MethodName)) hown (mvT hZ (hw _ (List.mem_of_getElem? (i := 53) rfl))) (mvT hZ (hw _ (List.mem_of_getElem? (i := 54) rfl))) (mvT hZ (hw _ (List.mem_of_getElem? (i := 55) rfl))) (mvT hZ (hw _ (List.mem_of_getElem? (i := 56) rfl))) (by decide) (backOf (W := 0) (rm12 l Z aZ hw [] b122  T130.heap n0 Zs130 ) hZ (hw _ (List.mem_of_getElem? (i := 56) rfl)) (hw _ (List.mem_of_getElem? (i := 55) rfl)) (by decide) (by decide)) (g := (mkF m 66 #[.val (.int x0), .val (.int x1), .val (.int x2), .val (.ref b107), .val (.ref b114), .val (.ref b122), .val (.ref rl130), .unset, .unset, .unset] [(.ref b122)])) rfl (by rw [hml]; rfl) (argsL := [(.ref b122)]) (rest := []) (lenOf pd_11 rfl) rfl (by show 2 * 0 + _ ≤ _; exact Nat.le_of_eq rfl) (hb hby at_66) (fun _ _ => ⟨rfl, rfl, (by decide : 8 + 1 ≤ _), (by decide : 17 + 2 ≤ _)⟩)
  dsimp only [Pt.U, Pt.locs, Pt.cells, Pt.slots] at X132 l132 y132 z132 st132 hQ132
  rw [l132, y132, z132] at X132
  clear l132 y132 z132
  obtain ⟨rl132, vq132, N132q, Kc132, sq132, Eq132, Fa132, Fp132⟩ := hQ132
  rw [vq132] at st132
  have N132 := Fr.app N130 N132q
  have pre132 : ∀ t, Steps p.tables e below (T132.setTop (mkF m 69 #[.val (.int x0), .val (.int x1), .val (.int x2), .val (.ref b107), .val (.ref b114), .val (.ref b122), .val (.ref rl130), .unset, .unset, .unset] [(.ref rl132)])) t → Steps p.tables e below (s₁.setTop (entryFrame m #[(.int x0), (.int x1), (.int x2)] maxLocals)) t := fun t kt => pre131 _ (st132 t kt)
  have Zs132 : n0 ≤ T132.heap.size := Nat.le_trans Zs130 Kc132.1
  have ne_b107_rl132 : b107 ≠ rl132 := Nat.ne_of_lt (Nat.lt_of_lt_of_le F130_1.lt sq132)
  have ne_b114_rl132 : b114 ≠ rl132 := Nat.ne_of_lt (Nat.lt_of_lt_of_le F130_2.lt sq132)
  have ne_b116_rl132 : b116 ≠ rl132 := Nat.ne_of_lt (Nat.lt_of_lt_of_le F130_3.lt sq132)
  have ne_b122_rl132 : b122 ≠ rl132 := Nat.ne_of_lt (Nat.lt_of_lt_of_le F130_5.lt sq132)
  have ne_rl130_rl132 : rl130 ≠ rl132 := Nat.ne_of_lt (Nat.lt_of_lt_of_le Eq130.lt sq132)
  have g_rl132 : n0 ≤ rl132 := Nat.le_trans Zs130 sq132
  have sz_rl132 : h0.size ≤ rl132 := Nat.le_trans K130.1 sq132
  have F132_0 := own_sta_keep F130_0 Kc132 (by simp)
  have F132_1 := F130_1.keep Kc132 (by simp)
  have F132_2 := F130_2.keep Kc132
  have F132_3 := F130_3.keep Kc132
  have F132_4 := F130_4.keep Kc132 (by simp)
  have F132_5 := F130_5.keep Kc132
  have F132_6 := F130_6.keep Kc132 (by simp)
  have F132_7 := Eq130.keep Kc132
  have F132_8 := Fa130.keep Kc132 (by simp)
  have F132_9 := Fp130.keep Kc132 (by simp)
  have K132 := K130.trans Kc132 (by simp)
  have pre133 : ∀ t, Steps p.tables e below (T132.setTop (mkF m 73 #[.val (.int x0), .val (.int x1), .val (.int x2), .val (.ref b107), .val (.ref b114), .val (.ref b122), .val (.ref rl130), .val (.ref rl132), .unset, .unset] [(.ref rl130)])) t → Steps p.tables e below (s₁.setTop (entryFrame m #[(.int x0), (.int x1), (.int x2)] maxLocals)) t := fun t kt => by
    refine pre132 _ ?_
    show Steps p.tables e below (T132.setTop (mkF m 69 #[.val (.int x0), .val (.int x1), .val (.int x2), .val (.ref b107), .val (.ref b114), .val (.ref b122), .val (.ref rl130), .unset, .unset, .unset] [(.ref rl132)])) _
    refine XS.astore X132.here hx rfl (hb hby at_69) rfl rfl (l' := #[.val (.int x0), .val (.int x1), .val (.int x2), .val (.ref b107), .val (.ref b114), .val (.ref b122), .val (.ref rl130), .val (.ref rl132), .unset, .unset]) rfl ?_
    show Steps p.tables e below (T132.setTop (mkF m 71 #[.val (.int x0), .val (.int x1), .val (.int x2), .val (.ref b107), .val (.ref b114), .val (.ref b122), .val (.ref rl130), .val (.ref rl132), .unset, .unset] [])) _
    refine XS.aload X132.here hx rfl (hb hby at_71) rfl rfl ?_
    show Steps p.tables e below (T132.setTop (mkF m 73 #[.val (.int x0), .val (.int x1), .val (.int x2), .val (.ref b107), .val (.ref b114), .val (.ref b122), .val (.ref rl130), .val (.ref rl132), .unset, .unset] [(.ref rl130)])) _
    exact kt
  obtain ⟨T134, X134, e134, st134⟩ := instY X132 hx hZ hown (hw _ (List.mem_of_getElem? (i := 68) rfl)) rfl (Ins.self F132_7) (g := (mkF m 73 #[.val (.int x0), .val (.int x1), .val (.int x2), .val (.ref b107), .val (.ref b114), .val (.ref b122), .val (.ref rl130), .val (.ref rl132), .unset, .unset] [(.ref rl130)])) rfl rfl (hb hby at_73)
  have pre134 : ∀ t, Steps p.tables e below (T134.setTop (mkF m 76 #[.val (.int x0), .val (.int x1), .val (.int x2), .val (.ref b107), .val (.ref b114), .val (.ref b122), .val (.ref rl130), .val (.ref rl132), .unset, .unset] [(.int (1 : Int32))])) t → Steps p.tables e below (s₁.setTop (entryFrame m #[(.int x0), (.int x1), (.int x2)] maxLocals)) t := fun t kt => pre133 _ (st134 t kt)
  have pre136 : ∀ t, Steps p.tables e below (T134.setTop (mkF m 81 #[.val (.int x0), .val (.int x1), .val (.int x2), .val (.ref b107), .val (.ref b114), .val (.ref b122), .val (.ref rl130), .val (.ref rl132), .unset, .unset] [])) t → Steps p.tables e below (s₁.setTop (entryFrame m #[(.int x0), (.int x1), (.int x2)] maxLocals)) t := fun t kt => by
    refine pre134 _ ?_
    show Steps p.tables e below (T134.setTop (mkF m 76 #[.val (.int x0), .val (.int x1), .val (.int x2), .val (.ref b107), .val (.ref b114), .val (.ref b122), .val (.ref rl130), .val (.ref rl132), .unset, .unset] [(.int (1 : Int32))])) _
    refine XS.ifYes X134.here hx rfl (pc0 := 76) (pc' := 81) rfl (hb hby at_76) rfl ((if0 _ _).trans (feq (by decide : ¬ ((1 : Int32) = (0 : Int32)))).2) (by decide) (by decide) ?_
    show Steps p.tables e below (T134.setTop (mkF m 81 #[.val (.int x0), .val (.int x1), .val (.int x2), .val (.ref b107), .val (.ref b114), .val (.ref b122), .val (.ref rl130), .val (.ref rl132), .unset, .unset] [])) _
    exact kt
  have pre137 : ∀ t, Steps p.tables e below (T134.setTop (mkF m 83 #[.val (.int x0), .val (.int x1), .val (.int x2), .val (.ref b107), .val (.ref b114), .val (.ref b122), .val (.ref rl130), .val (.ref rl132), .unset, .unset] [(.ref rl132)])) t → Steps p.tables e below (s₁.setTop (entryFrame m #[(.int x0), (.int x1), (.int x2)] maxLocals)) t := fun t kt => by
    refine pre136 _ ?_
    show Steps p.tables e below (T134.setTop (mkF m 81 #[.val (.int x0), .val (.int x1), .val (.int x2), .val (.ref b107), .val (.ref b114), .val (.ref b122), .val (.ref rl130), .val (.ref rl132), .unset, .unset] [])) _
    refine XS.aload X134.here hx rfl (hb hby at_81) rfl rfl ?_
    show Steps p.tables e below (T134.setTop (mkF m 83 #[.val (.int x0), .val (.int x1), .val (.int x2), .val (.ref b107), .val (.ref b114), .val (.ref b122), .val (.ref rl130), .val (.ref rl132), .unset, .unset] [(.ref rl132)])) _
    exact kt
  obtain ⟨T138, X138, e138, st138⟩ := instY X134 hx hZ hown (hw _ (List.mem_of_getElem? (i := 68) rfl)) e134 (Ins.self Eq132) (g := (mkF m 83 #[.val (.int x0), .val (.int x1), .val (.int x2), .val (.ref b107), .val (.ref b114), .val (.ref b122), .val (.ref rl130), .val (.ref rl132), .unset, .unset] [(.ref rl132)])) rfl rfl (hb hby at_83)
  have pre138 : ∀ t, Steps p.tables e below (T138.setTop (mkF m 86 #[.val (.int x0), .val (.int x1), .val (.int x2), .val (.ref b107), .val (.ref b114), .val (.ref b122), .val (.ref rl130), .val (.ref rl132), .unset, .unset] [(.int (1 : Int32))])) t → Steps p.tables e below (s₁.setTop (entryFrame m #[(.int x0), (.int x1), (.int x2)] maxLocals)) t := fun t kt => pre137 _ (st138 t kt)
  have pre140 : ∀ t, Steps p.tables e below (T138.setTop (mkF m 91 #[.val (.int x0), .val (.int x1), .val (.int x2), .val (.ref b107), .val (.ref b114), .val (.ref b122), .val (.ref rl130), .val (.ref rl132), .unset, .unset] [])) t → Steps p.tables e below (s₁.setTop (entryFrame m #[(.int x0), (.int x1), (.int x2)] maxLocals)) t := fun t kt => by
    refine pre138 _ ?_
    show Steps p.tables e below (T138.setTop (mkF m 86 #[.val (.int x0), .val (.int x1), .val (.int x2), .val (.ref b107), .val (.ref b114), .val (.ref b122), .val (.ref rl130), .val (.ref rl132), .unset, .unset] [(.int (1 : Int32))])) _
    refine XS.ifYes X138.here hx rfl (pc0 := 86) (pc' := 91) rfl (hb hby at_86) rfl ((if0 _ _).trans (feq (by decide : ¬ ((1 : Int32) = (0 : Int32)))).2) (by decide) (by decide) ?_
    show Steps p.tables e below (T138.setTop (mkF m 91 #[.val (.int x0), .val (.int x1), .val (.int x2), .val (.ref b107), .val (.ref b114), .val (.ref b122), .val (.ref rl130), .val (.ref rl132), .unset, .unset] [])) _
    exact kt
  have pre141 : ∀ t, Steps p.tables e below (T138.setTop (mkF m 93 #[.val (.int x0), .val (.int x1), .val (.int x2), .val (.ref b107), .val (.ref b114), .val (.ref b122), .val (.ref rl130), .val (.ref rl132), .unset, .unset] [(.ref rl130)])) t → Steps p.tables e below (s₁.setTop (entryFrame m #[(.int x0), (.int x1), (.int x2)] maxLocals)) t := fun t kt => by
    refine pre140 _ ?_
    show Steps p.tables e below (T138.setTop (mkF m 91 #[.val (.int x0), .val (.int x1), .val (.int x2), .val (.ref b107), .val (.ref b114), .val (.ref b122), .val (.ref rl130), .val (.ref rl132), .unset, .unset] [])) _
    refine XS.aload X138.here hx rfl (hb hby at_91) rfl rfl ?_
    show Steps p.tables e below (T138.setTop (mkF m 93 #[.val (.int x0), .val (.int x1), .val (.int x2), .val (.ref b107), .val (.ref b114), .val (.ref b122), .val (.ref rl130), .val (.ref rl132), .unset, .unset] [(.ref rl130)])) _
    exact kt
  obtain ⟨T142, X142, e142, st142⟩ := castY X138 hx hZ hown (hw _ (List.mem_of_getElem? (i := 68) rfl)) e138 (Ins.self F132_7) (g := (mkF m 93 #[.val (.int x0), .val (.int x1), .val (.int x2), .val (.ref b107), .val (.ref b114), .val (.ref b122), .val (.ref rl130), .val (.ref rl132), .unset, .unset] [(.ref rl130)])) rfl rfl (hb hby at_93)
  have pre142 : ∀ t, Steps p.tables e below (T142.setTop (mkF m 96 #[.val (.int x0), .val (.int x1), .val (.int x2), .val (.ref b107), .val (.ref b114), .val (.ref b122), .val (.ref rl130), .val (.ref rl132), .unset, .unset] [(.ref rl130)])) t → Steps p.tables e below (s₁.setTop (entryFrame m #[(.int x0), (.int x1), (.int x2)] maxLocals)) t := fun t kt => pre141 _ (st142 t kt)
  have pre143 : ∀ t, Steps p.tables e below (T142.setTop (mkF m 100 #[.val (.int x0), .val (.int x1), .val (.int x2), .val (.ref b107), .val (.ref b114), .val (.ref b122), .val (.ref rl130), .val (.ref rl132), .val (.ref rl130), .unset] [(.ref rl132)])) t → Steps p.tables e below (s₁.setTop (entryFrame m #[(.int x0), (.int x1), (.int x2)] maxLocals)) t := fun t kt => by
    refine pre142 _ ?_
    show Steps p.tables e below (T142.setTop (mkF m 96 #[.val (.int x0), .val (.int x1), .val (.int x2), .val (.ref b107), .val (.ref b114), .val (.ref b122), .val (.ref rl130), .val (.ref rl132), .unset, .unset] [(.ref rl130)])) _
    refine XS.astore X142.here hx rfl (hb hby at_96) rfl rfl (l' := #[.val (.int x0), .val (.int x1), .val (.int x2), .val (.ref b107), .val (.ref b114), .val (.ref b122), .val (.ref rl130), .val (.ref rl132), .val (.ref rl130), .unset]) rfl ?_
    show Steps p.tables e below (T142.setTop (mkF m 98 #[.val (.int x0), .val (.int x1), .val (.int x2), .val (.ref b107), .val (.ref b114), .val (.ref b122), .val (.ref rl130), .val (.ref rl132), .val (.ref rl130), .unset] [])) _
    refine XS.aload X142.here hx rfl (hb hby at_98) rfl rfl ?_
    show Steps p.tables e below (T142.setTop (mkF m 100 #[.val (.int x0), .val (.int x1), .val (.int x2), .val (.ref b107), .val (.ref b114), .val (.ref b122), .val (.ref rl130), .val (.ref rl132), .val (.ref rl130), .unset] [(.ref rl132)])) _
    exact kt
  obtain ⟨T144, X144, e144, st144⟩ := castY X142 hx hZ hown (hw _ (List.mem_of_getElem? (i := 68) rfl)) e142 (Ins.self Eq132) (g := (mkF m 100 #[.val (.int x0), .val (.int x1), .val (.int x2), .val (.ref b107), .val (.ref b114), .val (.ref b122), .val (.ref rl130), .val (.ref rl132), .val (.ref rl130), .unset] [(.ref rl132)])) rfl rfl (hb hby at_100)
  have pre144 : ∀ t, Steps p.tables e below (T144.setTop (mkF m 103 #[.val (.int x0), .val (.int x1), .val (.int x2), .val (.ref b107), .val (.ref b114), .val (.ref b122), .val (.ref rl130), .val (.ref rl132), .val (.ref rl130), .unset] [(.ref rl132)])) t → Steps p.tables e below (s₁.setTop (entryFrame m #[(.int x0), (.int x1), (.int x2)] maxLocals)) t := fun t kt => pre143 _ (st144 t kt)
  have pre145 : ∀ t, Steps p.tables e below (T144.setTop (mkF m 107 #[.val (.int x0), .val (.int x1), .val (.int x2), .val (.ref b107), .val (.ref b114), .val (.ref b122), .val (.ref rl130), .val (.ref rl132), .val (.ref rl130), .val (.ref rl132)] [(.ref rl130)])) t → Steps p.tables e below (s₁.setTop (entryFrame m #[(.int x0), (.int x1), (.int x2)] maxLocals)) t := fun t kt => by
    refine pre144 _ ?_
    show Steps p.tables e below (T144.setTop (mkF m 103 #[.val (.int x0), .val (.int x1), .val (.int x2), .val (.ref b107), .val (.ref b114), .val (.ref b122), .val (.ref rl130), .val (.ref rl132), .val (.ref rl130), .unset] [(.ref rl132)])) _
    refine XS.astore X144.here hx rfl (hb hby at_103) rfl rfl (l' := #[.val (.int x0), .val (.int x1), .val (.int x2), .val (.ref b107), .val (.ref b114), .val (.ref b122), .val (.ref rl130), .val (.ref rl132), .val (.ref rl130), .val (.ref rl132)]) rfl ?_
    show Steps p.tables e below (T144.setTop (mkF m 105 #[.val (.int x0), .val (.int x1), .val (.int x2), .val (.ref b107), .val (.ref b114), .val (.ref b122), .val (.ref rl130), .val (.ref rl132), .val (.ref rl130), .val (.ref rl132)] [])) _
    refine XS.aload X144.here hx rfl (hb hby at_105) rfl rfl ?_
    show Steps p.tables e below (T144.setTop (mkF m 107 #[.val (.int x0), .val (.int x1), .val (.int x2), .val (.ref b107), .val (.ref b114), .val (.ref b122), .val (.ref rl130), .val (.ref rl132), .val (.ref rl130), .val (.ref rl132)] [(.ref rl130)])) _
    exact kt
  obtain ⟨cq146, kq146, q146a, q146b, q146c⟩ := isOf hZ e144 F132_7
  obtain ⟨v146, _, ⟨T146, L146, k146, n146⟩, -, X146, ⟨Lc146, hQ146, l146, y146, z146⟩, st146⟩ := X144.virtualBack hx (y := (⟨"com/example/pertinet/pertinet/satisfiability/Literal", "getAtom", "()Lcom/example/pertinet/pertinet/satisfiability/Atom;"⟩ : MethodName)) (z := (⟨"com/example/pertinet/pertinet/satisfiability/Literal", "getAtom", "()Lcom/example/pertinet/pertinet/satisfiability/Atom;"⟩ : MethodName)) hown (mvT hZ (hw _ (List.mem_of_getElem? (i := 70) rfl))) (mvT hZ (hw _ (List.mem_of_getElem? (i := 71) rfl))) (notFace_of_selects (args := #[]) (mvT hZ (hw _ (List.mem_of_getElem? (i := 73) rfl)))) (mvT hZ (hw _ (List.mem_of_getElem? (i := 73) rfl))) (mvT hZ (hw _ (List.mem_of_getElem? (i := 72) rfl))) (by decide) (backOf (W := 0) (rm14 l Z aZ hw [] rl130 b114 T132.heap n0 Zs132 F132_8) hZ (hw _ (List.mem_of_getElem? (i := 74) rfl)) (hw _ (List.mem_of_getElem? (i := 59) rfl)) (by decide) (by decide)) q146a q146c (g := (mkF m 107 #[.val (.int x0), .val (.int x1), .val (.int x2), .val (.ref b107), .val (.ref b114), .val (.ref b122), .val (.ref rl130), .val (.ref rl132), .val (.ref rl130), .val (.ref rl132)] [(.ref rl130)])) rfl (by rw [hml]; rfl) (Steps.refl _) (argsL := []) (rest := []) (lenOf pd_13 rfl) rfl (by show 2 * 0 + _ ≤ _; exact Nat.le_of_eq rfl) (hb hby at_107) (fun _ _ => ⟨rfl, e144, (by decide : 9 + 0 ≤ _), (by decide : 19 + 0 ≤ _)⟩)
  dsimp only [Pt.U, Pt.locs, Pt.cells, Pt.slots] at X146 l146 y146 z146 st146 hQ146
  rw [l146, y146, z146] at X146
  clear l146 y146 z146
  obtain ⟨vq146, N146q, e146⟩ := hQ146
  rw [vq146] at st146
  have N146 := Fr.app N132 N146q
  have pre146 : ∀ t, Steps p.tables e below (T146.setTop (mkF m 110 #[.val (.int x0), .val (.int x1), .val (.int x2), .val (.ref b107), .val (.ref b114), .val (.ref b122), .val (.ref rl130), .val (.ref rl132), .val (.ref rl130), .val (.ref rl132)] [(.ref b114)])) t → Steps p.tables e below (s₁.setTop (entryFrame m #[(.int x0), (.int x1), (.int x2)] maxLocals)) t := fun t kt => pre145 _ (st146.trans kt)
  have pre147 : ∀ t, Steps p.tables e below (T146.setTop (mkF m 112 #[.val (.int x0), .val (.int x1), .val (.int x2), .val (.ref b107), .val (.ref b114), .val (.ref b122), .val (.ref rl130), .val (.ref rl132), .val (.ref rl130), .val (.ref rl132)] [(.ref b114), (.ref b114)])) t → Steps p.tables e below (s₁.setTop (entryFrame m #[(.int x0), (.int x1), (.int x2)] maxLocals)) t := fun t kt => by
    refine pre146 _ ?_
    show Steps p.tables e below (T146.setTop (mkF m 110 #[.val (.int x0), .val (.int x1), .val (.int x2), .val (.ref b107), .val (.ref b114), .val (.ref b122), .val (.ref rl130), .val (.ref rl132), .val (.ref rl130), .val (.ref rl132)] [(.ref b114)])) _
    refine XS.aload X146.here hx rfl (hb hby at_110) rfl rfl ?_
    show Steps p.tables e below (T146.setTop (mkF m 112 #[.val (.int x0), .val (.int x1), .val (.int x2), .val (.ref b107), .val (.ref b114), .val (.ref b122), .val (.ref rl130), .val (.ref rl132), .val (.ref rl130), .val (.ref rl132)] [(.ref b114), (.ref b114)])) _
    exact kt
  have pre148 : ∀ t, Steps p.tables e below (T146.setTop (mkF m 115 #[.val (.int x0), .val (.int x1), .val (.int x2), .val (.ref b107), .val (.ref b114), .val (.ref b122), .val (.ref rl130), .val (.ref rl132), .val (.ref rl130), .val (.ref rl132)] [])) t → Steps p.tables e below (s₁.setTop (entryFrame m #[(.int x0), (.int x1), (.int x2)] maxLocals)) t := fun t kt => pre147 _ (Jvm.RoadKit.acmp (g := (mkF m 112 #[.val (.int x0), .val (.int x1), .val (.int x2), .val (.ref b107), .val (.ref b114), .val (.ref b122), .val (.ref rl130), .val (.ref rl132), .val (.ref rl130), .val (.ref rl132)] [(.ref b114), (.ref b114)])) X146 hx rfl rfl rfl (pc0 := 112) (pc' := 115) (same := true) rfl (hb hby at_112) rfl (decide_eq_true rfl) (by decide) (by decide) kt)
  have pre149 : ∀ t, Steps p.tables e below (T146.setTop (mkF m 117 #[.val (.int x0), .val (.int x1), .val (.int x2), .val (.ref b107), .val (.ref b114), .val (.ref b122), .val (.ref rl130), .val (.ref rl132), .val (.ref rl130), .val (.ref rl132)] [(.ref rl130)])) t → Steps p.tables e below (s₁.setTop (entryFrame m #[(.int x0), (.int x1), (.int x2)] maxLocals)) t := fun t kt => by
    refine pre148 _ ?_
    show Steps p.tables e below (T146.setTop (mkF m 115 #[.val (.int x0), .val (.int x1), .val (.int x2), .val (.ref b107), .val (.ref b114), .val (.ref b122), .val (.ref rl130), .val (.ref rl132), .val (.ref rl130), .val (.ref rl132)] [])) _
    refine XS.aload X146.here hx rfl (hb hby at_115) rfl rfl ?_
    show Steps p.tables e below (T146.setTop (mkF m 117 #[.val (.int x0), .val (.int x1), .val (.int x2), .val (.ref b107), .val (.ref b114), .val (.ref b122), .val (.ref rl130), .val (.ref rl132), .val (.ref rl130), .val (.ref rl132)] [(.ref rl130)])) _
    exact kt
  obtain ⟨cq150, kq150, q150a, q150b, q150c⟩ := isOf hZ e146 F132_7
  obtain ⟨v150, _, ⟨T150, L150, k150, n150⟩, -, X150, ⟨Lc150, hQ150, l150, y150, z150⟩, st150⟩ := X146.virtualBack hx (y := (⟨"com/example/pertinet/pertinet/satisfiability/Literal", "isPositive", "()Z"⟩ : MethodName)) (z := (⟨"com/example/pertinet/pertinet/satisfiability/Literal", "isPositive", "()Z"⟩ : MethodName)) hown (mvT hZ (hw _ (List.mem_of_getElem? (i := 75) rfl))) (mvT hZ (hw _ (List.mem_of_getElem? (i := 76) rfl))) (notFace_of_selects (args := #[]) (mvT hZ (hw _ (List.mem_of_getElem? (i := 78) rfl)))) (mvT hZ (hw _ (List.mem_of_getElem? (i := 78) rfl))) (mvT hZ (hw _ (List.mem_of_getElem? (i := 77) rfl))) (by decide) (backOf (W := 0) (rm15 l Z aZ hw [] rl130  T132.heap n0 Zs132 F132_9) hZ (hw _ (List.mem_of_getElem? (i := 79) rfl)) (hw _ (List.mem_of_getElem? (i := 59) rfl)) (by decide) (by decide)) q150a q150c (g := (mkF m 117 #[.val (.int x0), .val (.int x1), .val (.int x2), .val (.ref b107), .val (.ref b114), .val (.ref b122), .val (.ref rl130), .val (.ref rl132), .val (.ref rl130), .val (.ref rl132)] [(.ref rl130)])) rfl (by rw [hml]; rfl) (Steps.refl _) (argsL := []) (rest := []) (lenOf pd_14 rfl) rfl (by show 2 * 0 + _ ≤ _; exact Nat.le_of_eq rfl) (hb hby at_117) (fun _ _ => ⟨rfl, e146, (by decide : 9 + 0 ≤ _), (by decide : 19 + 0 ≤ _)⟩)
  dsimp only [Pt.U, Pt.locs, Pt.cells, Pt.slots] at X150 l150 y150 z150 st150 hQ150
  rw [l150, y150, z150] at X150
  clear l150 y150 z150
  obtain ⟨vq150, N150q, e150⟩ := hQ150
  rw [vq150] at st150
  have N150 := Fr.app N146 N150q
  have pre150 : ∀ t, Steps p.tables e below (T150.setTop (mkF m 120 #[.val (.int x0), .val (.int x1), .val (.int x2), .val (.ref b107), .val (.ref b114), .val (.ref b122), .val (.ref rl130), .val (.ref rl132), .val (.ref rl130), .val (.ref rl132)] [(.int (1 : Int32))])) t → Steps p.tables e below (s₁.setTop (entryFrame m #[(.int x0), (.int x1), (.int x2)] maxLocals)) t := fun t kt => pre149 _ (st150.trans kt)
  have pre152 : ∀ t, Steps p.tables e below (T150.setTop (mkF m 123 #[.val (.int x0), .val (.int x1), .val (.int x2), .val (.ref b107), .val (.ref b114), .val (.ref b122), .val (.ref rl130), .val (.ref rl132), .val (.ref rl130), .val (.ref rl132)] [])) t → Steps p.tables e below (s₁.setTop (entryFrame m #[(.int x0), (.int x1), (.int x2)] maxLocals)) t := fun t kt => by
    refine pre150 _ ?_
    show Steps p.tables e below (T150.setTop (mkF m 120 #[.val (.int x0), .val (.int x1), .val (.int x2), .val (.ref b107), .val (.ref b114), .val (.ref b122), .val (.ref rl130), .val (.ref rl132), .val (.ref rl130), .val (.ref rl132)] [(.int (1 : Int32))])) _
    refine XS.ifNo X150.here hx rfl (hb hby at_120) rfl ((if0 _ _).trans (feq (by decide : ¬ ((1 : Int32) = (0 : Int32)))).1) ?_
    show Steps p.tables e below (T150.setTop (mkF m 123 #[.val (.int x0), .val (.int x1), .val (.int x2), .val (.ref b107), .val (.ref b114), .val (.ref b122), .val (.ref rl130), .val (.ref rl132), .val (.ref rl130), .val (.ref rl132)] [])) _
    exact kt
  have pre153 : ∀ t, Steps p.tables e below (T150.setTop (mkF m 125 #[.val (.int x0), .val (.int x1), .val (.int x2), .val (.ref b107), .val (.ref b114), .val (.ref b122), .val (.ref rl130), .val (.ref rl132), .val (.ref rl130), .val (.ref rl132)] [(.ref rl132)])) t → Steps p.tables e below (s₁.setTop (entryFrame m #[(.int x0), (.int x1), (.int x2)] maxLocals)) t := fun t kt => by
    refine pre152 _ ?_
    show Steps p.tables e below (T150.setTop (mkF m 123 #[.val (.int x0), .val (.int x1), .val (.int x2), .val (.ref b107), .val (.ref b114), .val (.ref b122), .val (.ref rl130), .val (.ref rl132), .val (.ref rl130), .val (.ref rl132)] [])) _
    refine XS.aload X150.here hx rfl (hb hby at_123) rfl rfl ?_
    show Steps p.tables e below (T150.setTop (mkF m 125 #[.val (.int x0), .val (.int x1), .val (.int x2), .val (.ref b107), .val (.ref b114), .val (.ref b122), .val (.ref rl130), .val (.ref rl132), .val (.ref rl130), .val (.ref rl132)] [(.ref rl132)])) _
    exact kt
  obtain ⟨cq154, kq154, q154a, q154b, q154c⟩ := isOf hZ e150 Eq132
  obtain ⟨v154, _, ⟨T154, L154, k154, n154⟩, -, X154, ⟨Lc154, hQ154, l154, y154, z154⟩, st154⟩ := X150.virtualBack hx (y := (⟨"com/example/pertinet/pertinet/satisfiability/Literal", "getAtom", "()Lcom/example/pertinet/pertinet/satisfiability/Atom;"⟩ : MethodName)) (z := (⟨"com/example/pertinet/pertinet/satisfiability/Literal", "getAtom", "()Lcom/example/pertinet/pertinet/satisfiability/Atom;"⟩ : MethodName)) hown (mvT hZ (hw _ (List.mem_of_getElem? (i := 70) rfl))) (mvT hZ (hw _ (List.mem_of_getElem? (i := 71) rfl))) (notFace_of_selects (args := #[]) (mvT hZ (hw _ (List.mem_of_getElem? (i := 73) rfl)))) (mvT hZ (hw _ (List.mem_of_getElem? (i := 73) rfl))) (mvT hZ (hw _ (List.mem_of_getElem? (i := 72) rfl))) (by decide) (backOf (W := 0) (rm14 l Z aZ hw [] rl132 b122 T132.heap n0 Zs132 Fa132) hZ (hw _ (List.mem_of_getElem? (i := 74) rfl)) (hw _ (List.mem_of_getElem? (i := 59) rfl)) (by decide) (by decide)) q154a q154c (g := (mkF m 125 #[.val (.int x0), .val (.int x1), .val (.int x2), .val (.ref b107), .val (.ref b114), .val (.ref b122), .val (.ref rl130), .val (.ref rl132), .val (.ref rl130), .val (.ref rl132)] [(.ref rl132)])) rfl (by rw [hml]; rfl) (Steps.refl _) (argsL := []) (rest := []) (lenOf pd_13 rfl) rfl (by show 2 * 0 + _ ≤ _; exact Nat.le_of_eq rfl) (hb hby at_125) (fun _ _ => ⟨rfl, e150, (by decide : 9 + 0 ≤ _), (by decide : 19 + 0 ≤ _)⟩)
  dsimp only [Pt.U, Pt.locs, Pt.cells, Pt.slots] at X154 l154 y154 z154 st154 hQ154
  rw [l154, y154, z154] at X154
  clear l154 y154 z154
  obtain ⟨vq154, N154q, e154⟩ := hQ154
  rw [vq154] at st154
  have N154 := Fr.app N150 N154q
  have pre154 : ∀ t, Steps p.tables e below (T154.setTop (mkF m 128 #[.val (.int x0), .val (.int x1), .val (.int x2), .val (.ref b107), .val (.ref b114), .val (.ref b122), .val (.ref rl130), .val (.ref rl132), .val (.ref rl130), .val (.ref rl132)] [(.ref b122)])) t → Steps p.tables e below (s₁.setTop (entryFrame m #[(.int x0), (.int x1), (.int x2)] maxLocals)) t := fun t kt => pre153 _ (st154.trans kt)
  have pre155 : ∀ t, Steps p.tables e below (T154.setTop (mkF m 130 #[.val (.int x0), .val (.int x1), .val (.int x2), .val (.ref b107), .val (.ref b114), .val (.ref b122), .val (.ref rl130), .val (.ref rl132), .val (.ref rl130), .val (.ref rl132)] [(.ref b122), (.ref b122)])) t → Steps p.tables e below (s₁.setTop (entryFrame m #[(.int x0), (.int x1), (.int x2)] maxLocals)) t := fun t kt => by
    refine pre154 _ ?_
    show Steps p.tables e below (T154.setTop (mkF m 128 #[.val (.int x0), .val (.int x1), .val (.int x2), .val (.ref b107), .val (.ref b114), .val (.ref b122), .val (.ref rl130), .val (.ref rl132), .val (.ref rl130), .val (.ref rl132)] [(.ref b122)])) _
    refine XS.aload X154.here hx rfl (hb hby at_128) rfl rfl ?_
    show Steps p.tables e below (T154.setTop (mkF m 130 #[.val (.int x0), .val (.int x1), .val (.int x2), .val (.ref b107), .val (.ref b114), .val (.ref b122), .val (.ref rl130), .val (.ref rl132), .val (.ref rl130), .val (.ref rl132)] [(.ref b122), (.ref b122)])) _
    exact kt
  have pre156 : ∀ t, Steps p.tables e below (T154.setTop (mkF m 133 #[.val (.int x0), .val (.int x1), .val (.int x2), .val (.ref b107), .val (.ref b114), .val (.ref b122), .val (.ref rl130), .val (.ref rl132), .val (.ref rl130), .val (.ref rl132)] [])) t → Steps p.tables e below (s₁.setTop (entryFrame m #[(.int x0), (.int x1), (.int x2)] maxLocals)) t := fun t kt => pre155 _ (Jvm.RoadKit.acmp (g := (mkF m 130 #[.val (.int x0), .val (.int x1), .val (.int x2), .val (.ref b107), .val (.ref b114), .val (.ref b122), .val (.ref rl130), .val (.ref rl132), .val (.ref rl130), .val (.ref rl132)] [(.ref b122), (.ref b122)])) X154 hx rfl rfl rfl (pc0 := 130) (pc' := 133) (same := true) rfl (hb hby at_130) rfl (decide_eq_true rfl) (by decide) (by decide) kt)
  have pre157 : ∀ t, Steps p.tables e below (T154.setTop (mkF m 135 #[.val (.int x0), .val (.int x1), .val (.int x2), .val (.ref b107), .val (.ref b114), .val (.ref b122), .val (.ref rl130), .val (.ref rl132), .val (.ref rl130), .val (.ref rl132)] [(.ref rl132)])) t → Steps p.tables e below (s₁.setTop (entryFrame m #[(.int x0), (.int x1), (.int x2)] maxLocals)) t := fun t kt => by
    refine pre156 _ ?_
    show Steps p.tables e below (T154.setTop (mkF m 133 #[.val (.int x0), .val (.int x1), .val (.int x2), .val (.ref b107), .val (.ref b114), .val (.ref b122), .val (.ref rl130), .val (.ref rl132), .val (.ref rl130), .val (.ref rl132)] [])) _
    refine XS.aload X154.here hx rfl (hb hby at_133) rfl rfl ?_
    show Steps p.tables e below (T154.setTop (mkF m 135 #[.val (.int x0), .val (.int x1), .val (.int x2), .val (.ref b107), .val (.ref b114), .val (.ref b122), .val (.ref rl130), .val (.ref rl132), .val (.ref rl130), .val (.ref rl132)] [(.ref rl132)])) _
    exact kt
  obtain ⟨cq158, kq158, q158a, q158b, q158c⟩ := isOf hZ e154 Eq132
  obtain ⟨v158, _, ⟨T158, L158, k158, n158⟩, -, X158, ⟨Lc158, hQ158, l158, y158, z158⟩, st158⟩ := X154.virtualBack hx (y := (⟨"com/example/pertinet/pertinet/satisfiability/Literal", "isPositive", "()Z"⟩ : MethodName)) (z := (⟨"com/example/pertinet/pertinet/satisfiability/Literal", "isPositive", "()Z"⟩ : MethodName)) hown (mvT hZ (hw _ (List.mem_of_getElem? (i := 75) rfl))) (mvT hZ (hw _ (List.mem_of_getElem? (i := 76) rfl))) (notFace_of_selects (args := #[]) (mvT hZ (hw _ (List.mem_of_getElem? (i := 78) rfl)))) (mvT hZ (hw _ (List.mem_of_getElem? (i := 78) rfl))) (mvT hZ (hw _ (List.mem_of_getElem? (i := 77) rfl))) (by decide) (backOf (W := 0) (rm15 l Z aZ hw [] rl132  T132.heap n0 Zs132 Fp132) hZ (hw _ (List.mem_of_getElem? (i := 79) rfl)) (hw _ (List.mem_of_getElem? (i := 59) rfl)) (by decide) (by decide)) q158a q158c (g := (mkF m 135 #[.val (.int x0), .val (.int x1), .val (.int x2), .val (.ref b107), .val (.ref b114), .val (.ref b122), .val (.ref rl130), .val (.ref rl132), .val (.ref rl130), .val (.ref rl132)] [(.ref rl132)])) rfl (by rw [hml]; rfl) (Steps.refl _) (argsL := []) (rest := []) (lenOf pd_14 rfl) rfl (by show 2 * 0 + _ ≤ _; exact Nat.le_of_eq rfl) (hb hby at_135) (fun _ _ => ⟨rfl, e154, (by decide : 9 + 0 ≤ _), (by decide : 19 + 0 ≤ _)⟩)
  dsimp only [Pt.U, Pt.locs, Pt.cells, Pt.slots] at X158 l158 y158 z158 st158 hQ158
  rw [l158, y158, z158] at X158
  clear l158 y158 z158
  obtain ⟨vq158, N158q, e158⟩ := hQ158
  rw [vq158] at st158
  have N158 := Fr.app N154 N158q
  have pre158 : ∀ t, Steps p.tables e below (T158.setTop (mkF m 138 #[.val (.int x0), .val (.int x1), .val (.int x2), .val (.ref b107), .val (.ref b114), .val (.ref b122), .val (.ref rl130), .val (.ref rl132), .val (.ref rl130), .val (.ref rl132)] [(.int (1 : Int32))])) t → Steps p.tables e below (s₁.setTop (entryFrame m #[(.int x0), (.int x1), (.int x2)] maxLocals)) t := fun t kt => pre157 _ (st158.trans kt)
  have pre160 : ∀ t, Steps p.tables e below (T158.setTop (mkF m 141 #[.val (.int x0), .val (.int x1), .val (.int x2), .val (.ref b107), .val (.ref b114), .val (.ref b122), .val (.ref rl130), .val (.ref rl132), .val (.ref rl130), .val (.ref rl132)] [])) t → Steps p.tables e below (s₁.setTop (entryFrame m #[(.int x0), (.int x1), (.int x2)] maxLocals)) t := fun t kt => by
    refine pre158 _ ?_
    show Steps p.tables e below (T158.setTop (mkF m 138 #[.val (.int x0), .val (.int x1), .val (.int x2), .val (.ref b107), .val (.ref b114), .val (.ref b122), .val (.ref rl130), .val (.ref rl132), .val (.ref rl130), .val (.ref rl132)] [(.int (1 : Int32))])) _
    refine XS.ifNo X158.here hx rfl (hb hby at_138) rfl ((if0 _ _).trans (feq (by decide : ¬ ((1 : Int32) = (0 : Int32)))).1) ?_
    show Steps p.tables e below (T158.setTop (mkF m 141 #[.val (.int x0), .val (.int x1), .val (.int x2), .val (.ref b107), .val (.ref b114), .val (.ref b122), .val (.ref rl130), .val (.ref rl132), .val (.ref rl130), .val (.ref rl132)] [])) _
    exact kt
  have pre161 : ∀ t, Steps p.tables e below (T158.setTop (mkF m 145 #[.val (.int x0), .val (.int x1), .val (.int x2), .val (.ref b107), .val (.ref b114), .val (.ref b122), .val (.ref rl130), .val (.ref rl132), .val (.ref rl130), .val (.ref rl132)] [(.ref rl132), (.ref rl130)])) t → Steps p.tables e below (s₁.setTop (entryFrame m #[(.int x0), (.int x1), (.int x2)] maxLocals)) t := fun t kt => by
    refine pre160 _ ?_
    show Steps p.tables e below (T158.setTop (mkF m 141 #[.val (.int x0), .val (.int x1), .val (.int x2), .val (.ref b107), .val (.ref b114), .val (.ref b122), .val (.ref rl130), .val (.ref rl132), .val (.ref rl130), .val (.ref rl132)] [])) _
    refine XS.aload X158.here hx rfl (hb hby at_141) rfl rfl ?_
    show Steps p.tables e below (T158.setTop (mkF m 143 #[.val (.int x0), .val (.int x1), .val (.int x2), .val (.ref b107), .val (.ref b114), .val (.ref b122), .val (.ref rl130), .val (.ref rl132), .val (.ref rl130), .val (.ref rl132)] [(.ref rl130)])) _
    refine XS.aload X158.here hx rfl (hb hby at_143) rfl rfl ?_
    show Steps p.tables e below (T158.setTop (mkF m 145 #[.val (.int x0), .val (.int x1), .val (.int x2), .val (.ref b107), .val (.ref b114), .val (.ref b122), .val (.ref rl130), .val (.ref rl132), .val (.ref rl130), .val (.ref rl132)] [(.ref rl132), (.ref rl130)])) _
    exact kt
  have pre162 : ∀ t, Steps p.tables e below (T158.setTop (mkF m 148 #[.val (.int x0), .val (.int x1), .val (.int x2), .val (.ref b107), .val (.ref b114), .val (.ref b122), .val (.ref rl130), .val (.ref rl132), .val (.ref rl130), .val (.ref rl132)] [])) t → Steps p.tables e below (s₁.setTop (entryFrame m #[(.int x0), (.int x1), (.int x2)] maxLocals)) t := fun t kt => pre161 _ (Jvm.RoadKit.acmp (g := (mkF m 145 #[.val (.int x0), .val (.int x1), .val (.int x2), .val (.ref b107), .val (.ref b114), .val (.ref b122), .val (.ref rl130), .val (.ref rl132), .val (.ref rl130), .val (.ref rl132)] [(.ref rl132), (.ref rl130)])) X158 hx rfl rfl rfl (pc0 := 145) (pc' := 148) (same := false) rfl (hb hby at_145) rfl (decide_eq_false fun q => ne_rl130_rl132 (Value.ref.inj q)) (by decide) (by decide) kt)
  have pre163 : ∀ t, Steps p.tables e below (T158.setTop (mkF m 153 #[.val (.int x0), .val (.int x1), .val (.int x2), .val (.ref b107), .val (.ref b114), .val (.ref b122), .val (.ref rl130), .val (.ref rl132), .val (.ref rl130), .val (.ref rl132)] [(.int (1 : Int32))])) t → Steps p.tables e below (s₁.setTop (entryFrame m #[(.int x0), (.int x1), (.int x2)] maxLocals)) t := fun t kt => by
    refine pre162 _ ?_
    show Steps p.tables e below (T158.setTop (mkF m 148 #[.val (.int x0), .val (.int x1), .val (.int x2), .val (.ref b107), .val (.ref b114), .val (.ref b122), .val (.ref rl130), .val (.ref rl132), .val (.ref rl130), .val (.ref rl132)] [])) _
    refine XS.iconst X158.here hx rfl (hb hby at_148) ?_
    show Steps p.tables e below (T158.setTop (mkF m 149 #[.val (.int x0), .val (.int x1), .val (.int x2), .val (.ref b107), .val (.ref b114), .val (.ref b122), .val (.ref rl130), .val (.ref rl132), .val (.ref rl130), .val (.ref rl132)] [(.int (1 : Int32))])) _
    refine XS.goto X158.here hx rfl (pc0 := 149) (pc' := 153) rfl (hb hby at_149) (by decide) (by decide) ?_
    show Steps p.tables e below (T158.setTop (mkF m 153 #[.val (.int x0), .val (.int x1), .val (.int x2), .val (.ref b107), .val (.ref b114), .val (.ref b122), .val (.ref rl130), .val (.ref rl132), .val (.ref rl130), .val (.ref rl132)] [(.int (1 : Int32))])) _
    exact kt
  obtain ⟨fs, hr, hrun, hended, hW, hsame⟩ := X158.leave (v := some (.int (1 : Int32))) (fun h => by rw [Bd.returns] at h; cases h)
  refine ⟨_, _, pre163 _ ?_, hrun, hended, _, _, rfl, ?_, ⟨_, rfl⟩, hW, hsame.mono (by decide) (by decide)⟩
  · show Steps p.tables e below (T158.setTop (mkF m 153 #[.val (.int x0), .val (.int x1), .val (.int x2), .val (.ref b107), .val (.ref b114), .val (.ref b122), .val (.ref rl130), .val (.ref rl132), .val (.ref rl130), .val (.ref rl132)] [(.int (1 : Int32))])) _
    exact retN X158 hx (t := .boolean) Bd.returns (by simp) (hb hby at_153) hr
  · show Q0 x0 x1 x2 h0 n0 _ T158.heap _
    exact ⟨rfl, N158⟩
set_option maxRecDepth 65536 in
set_option maxHeartbeats 40000000 in
theorem comes_1 {Post : Tables → Env → Array Value → State → Outcome → State → Prop} (hpost : ∀ tb e args s v u, (limb_1_1.after args s (.returned v) u = true ∧ limb_1_2.after args s (.returned v) u = true ∧ True) → FrameEnd s (.returned v) u (Jvm.fieldLocs frame_1_writes args s ++ Jvm.arrayLocs frame_1_arrays args s ++ Jvm.staticLocs frame_1_statics s) 32 128 → Post tb e args s (.returned v) u) :
    ArmFor flags0 classFile x code maxLocals ret World_1 tables_1 room_1 Calls_1 rest_1 Pre_1 Post := by
  intro l hfl _ _ p e ha hc hk s m args below hf hA hF happ hP
  obtain ⟨hcalls, hrest, hpre⟩ := hP
  obtain ⟨-, -, -, hnamed, -, -, -, hat⟩ := (Spec.applies_iff hf).mp happ
  obtain ⟨hg, hn⟩ := and_e (Cond.before_iff.mp (show (Jvm.Cond.and given_1 narrow_1).before args s = true from hpre))
  obtain ⟨ga0, gb0⟩ := and_e hg
  obtain ⟨ga1, gb1⟩ := and_e gb0
  obtain ⟨ga2, gb2⟩ := and_e gb1
  obtain ⟨w0, w1, w2, rfl⟩ : ∃ w0 w1 w2 : Value, args = #[w0, w1, w2] := by
    have hs : args.size = 3 := by simpa [Cond.value, given_1] using ga0
    obtain ⟨L⟩ := args
    match L, hs with
    | [w0, w1, w2], _ => exact ⟨w0, w1, w2, rfl⟩
  have hw := fun d (hd : d ∈ tables_1) => atoms_spec (ws := Jvm.Cond.code x code maxLocals ret :: tables_1) hat d (List.mem_cons_of_mem _ hd)
  have hfit : Fit s := fun {y c} hc i hi => by
    obtain ⟨ha, rfl⟩ := Array.getElem?_eq_some_iff.mp hc
    have q := List.all_eq_true.mp ((Array.all_eq_true_iff_forall_mem.mp hF) _ (Array.getElem_mem ha)) i (List.mem_range.mpr hi)
    simpa [Array.getElem?_eq_getElem hi] using q
  obtain ⟨i0, ei0⟩ := is_v ga1
  obtain rfl : w0 = (.int i0) := Option.some.inj ei0
  obtain ⟨i1, ei1⟩ := is_v ga2
  obtain rfl : w1 = (.int i1) := Option.some.inj ei1
  obtain ⟨i2, ei2⟩ := is_v gb2
  obtain rfl : w2 = (.int i2) := Option.some.inj ei2
  obtain ⟨hsets, hown0⟩ := atoms_of _ (rest_1_c_eq ▸ (show rest_1_c.before _ s = true from hrest))
  obtain ⟨cs, ecs⟩ := is_v (Cond.before_iff.mp (hsets _ (List.mem_of_getElem? (i := 1) rfl)))
  have S_C := Sta.start ecs (Or.inl (hsets _ (List.mem_of_getElem? (i := 0) rfl)))
  have hcs : ¬ cs = (0 : Int32) := fun q => by
    have a := not_v (Cond.before_iff.mp (hsets _ (List.mem_of_getElem? (i := 2) rfl)))
    rw [eq_i ecs (Term.int_eval (0)) (by rw [q])] at a
    exact absurd a (by decide)
  obtain ⟨n, o, h1, h2, h3, _, L, rfl, ⟨rfl, N⟩, hq⟩ := rm0 l s _ hw tables_1 i0 i1 i2 cs s.heap s.heap.size (Nat.le_refl _) S_C hcs p e ha hc hk s m _ below hf ((Spec.applies_iff_loose hf).mp happ).1 ⟨rfl, State.Warmed39.refl s, rfl⟩ trivial
  refine ⟨n, _, h1, h2, h3, hpost _ _ _ _ _ _ ⟨Cond.after_iff.mpr rfl, Cond.after_iff.mpr (eq_i res_at (Term.int_eval (1)) rfl), trivial⟩ ⟨hq.1, hq.2.1, (hq.2.2.sift fun y hy => Or.inr (N y hy)).mono (by decide) (by decide)⟩⟩
theorem main_1_1 : Claimed_1_1 := comes_1 fun _ _ _ _ _ _ h hF => ⟨h.1, hF⟩
theorem main_1_2 : Claimed_1_2 := comes_1 fun _ _ _ _ _ _ h hF => ⟨h.2.1, hF⟩
end Jvm.Pilot.@@N@@
namespace Jvm.Pilot.@@N@@
open Jvm Jvm.ClassFile Sem Op Lib Jvm.Free Jvm.Stand Jvm.Pilot.@@N@@.Jvm.D
/-! MADE BY PROGRAM (witnessworld.py) out of the Statement's table words and the real class files: 23 classes; the members and pool entries that the words name. The judged class is class 1, her method 1. -/
namespace start1
open Jvm.ClassFile
def u (s : String) : CpInfo := .utf8 (stringToUtf16 s)
/-- a pool by its gaps: so many unusable entries, then the entry; so many at the end -/
def gap : Nat → List CpInfo → List CpInfo
  | 0, r => r
  | n + 1, r => .unusable :: gap n r
def poolList (es : List (Nat × CpInfo)) (last : Nat) : List CpInfo := es.foldr (fun e r => gap e.1 (e.2 :: r)) (gap last [])
def pool (es : List (Nat × CpInfo)) (last : Nat) : Array CpInfo := ⟨poolList es last⟩
def fileOf (pool : Array CpInfo) (this : Nat) (attrs : Array Attribute := #[]) (ms : Array MethodInfo := #[]) (fl : Nat := 33) (sup : Nat := 0) (ifs : Array Nat := #[]) (fds : Array FieldInfo := #[]) : ClassFile where
  minorVersion := 0
  majorVersion := 65
  constantPool := pool
  accessFlags := fl
  thisClass := this
  superClass := sup
  interfaces := ifs
  fields := fds
  methods := ms
  attributes := attrs
def plain (name : String) (sup : Option ClassId) : Class where
  name := name
  kind := .ordinary
  loader := none
  accessFlags := 33
  super := sup
  interfaces := #[]
  cf := none
  fields := #[]
  methods := #[]
  instanceTypes := #[]
  staticTypes := #[]
  resolved := #[]
  callSites := []
  init := .initialized
  statics := none
  mirror := none

def pool0 : Array CpInfo := pool [(5, u "<init>"), (0, u "()V"), (1, .class_ 10), (1, u "java/lang/Object")] 113

def k0c0 : Code := { maxStack := 0, maxLocals := 1, code := object_method_1_code, exceptionTable := #[], attributes := #[] }
def k0m0 : Method := { name := "<init>", desc := "()V", sig := { parameters := [], returnType := none }, accessFlags := 1, code := some k0c0 }
/-- java/lang/Object -/
def k0 : Class := { plain "java/lang/Object" none with
  accessFlags := 33
  interfaces := #[]
  cf := some (fileOf pool0 8 #[] #[{ accessFlags := 1, nameIndex := 5, descriptorIndex := 6, attributes := #[] }] 33 0 #[] #[])
  fields := #[]
  methods := #[k0m0]
  instanceTypes := #[]
  staticTypes := #[]
  resolved := Array.replicate 124 none
  statics := none }

def pool1 : Array CpInfo := pool [(2, .class_ 4), (1, u "java/lang/Object"), (0, u "<init>"), (0, u "()V"), (0, .class_ 8), (0, u "com/example/pertinet/pertinet/satisfiability/BooleanVariable"), (0, .class_ 10), (0, u "java/lang/String"), (0, .methodref 9 12), (0, .nameAndType 5 13), (0, u "([C)V"), (0, .methodref 7 15), (0, .nameAndType 5 16), (0, u "(Ljava/lang/String;)V"), (0, .methodref 9 18), (0, .nameAndType 19 20), (0, u "valueOf"), (0, u "(C)Ljava/lang/String;"), (0, .interfaceMethodref 22 23), (0, .class_ 24), (0, .nameAndType 25 26), (0, u "com/example/pertinet/pertinet/satisfiability/Formula"), (0, u "of"), (0, u "(Lcom/example/pertinet/pertinet/satisfiability/BooleanVariable;)Lcom/example/pertinet/pertinet/satisfiability/Formula;"), (0, .class_ 28), (0, u "com/example/pertinet/pertinet/satisfiability/Literal"), (0, .methodref 27 30), (0, .nameAndType 31 32), (0, u "getAtom"), (0, u "()Lcom/example/pertinet/pertinet/satisfiability/Atom;"), (0, .methodref 27 34), (0, .nameAndType 35 36), (0, u "isPositive"), (0, u "()Z"), (0, .class_ 38), (0, u "com/example/pertinet/pertinet/satisfiability/FormulaOfPinLaw"), (2, u "law"), (0, u "(III)Z")] 5

def k1m0 : Method := { name := "<init>", desc := "()V", sig := { parameters := [], returnType := none }, accessFlags := 1, code := none }
def k1c1 : Code := { maxStack := 5, maxLocals := 10, code := code, exceptionTable := #[], attributes := #[] }
def k1m1 : Method := { name := "law", desc := "(III)Z", sig := { parameters := [.int, .int, .int], returnType := some .boolean }, accessFlags := 9, code := some k1c1 }
/-- com/example/pertinet/pertinet/satisfiability/FormulaOfPinLaw -/
def k1 : Class := { plain "com/example/pertinet/pertinet/satisfiability/FormulaOfPinLaw" (some 0) with
  accessFlags := 49
  interfaces := #[]
  cf := some (fileOf pool1 37 #[] #[{ accessFlags := 1, nameIndex := 5, descriptorIndex := 6, attributes := #[] }, { accessFlags := 9, nameIndex := 41, descriptorIndex := 42, attributes := #[] }] 49 2 #[] #[])
  fields := #[]
  methods := #[k1m0, k1m1]
  instanceTypes := #[]
  staticTypes := #[]
  resolved := Array.replicate 48 none
  statics := none }

def pool2 : Array CpInfo := pool [(1, .class_ 2), (0, u "com/example/pertinet/pertinet/satisfiability/Atom"), (0, .class_ 4), (0, u "java/lang/Object")] 7

/-- com/example/pertinet/pertinet/satisfiability/Atom -/
def k2 : Class := { plain "com/example/pertinet/pertinet/satisfiability/Atom" (some 0) with
  accessFlags := 1536
  interfaces := #[]
  cf := some (fileOf pool2 1 #[] #[] 1536 3 #[] #[])
  fields := #[]
  methods := #[]
  instanceTypes := #[]
  staticTypes := #[]
  resolved := Array.replicate 12 none
  statics := none }

def pool3 : Array CpInfo := pool [(1, .methodref 2 3), (0, .class_ 4), (0, .nameAndType 5 6), (0, u "java/lang/Object"), (0, u "<init>"), (0, u "()V"), (0, .fieldref 8 9), (0, .class_ 10), (0, .nameAndType 11 12), (0, u "com/example/pertinet/pertinet/satisfiability/BooleanVariable"), (0, u "name"), (0, u "Ljava/lang/String;"), (0, .class_ 14), (0, u "com/example/pertinet/pertinet/satisfiability/Atom"), (0, u "(Ljava/lang/String;)V")] 6

def k3c0 : Code := { maxStack := 2, maxLocals := 2, code := prog_118_method_1_code, exceptionTable := #[], attributes := #[] }
def k3m0 : Method := { name := "<init>", desc := "(Ljava/lang/String;)V", sig := { parameters := [(.object "java/lang/String")], returnType := none }, accessFlags := 1, code := some k3c0 }
/-- com/example/pertinet/pertinet/satisfiability/BooleanVariable -/
def k3 : Class := { plain "com/example/pertinet/pertinet/satisfiability/BooleanVariable" (some 0) with
  accessFlags := 49
  interfaces := #[2]
  cf := some (fileOf pool3 8 #[] #[{ accessFlags := 1, nameIndex := 5, descriptorIndex := 15, attributes := #[] }] 49 2 #[13] #[{ accessFlags := 18, nameIndex := 11, descriptorIndex := 12, attributes := #[] }])
  fields := #[{ name := "name", type := (.object "java/lang/String"), accessFlags := 18, slot := 0, constantValue := 0 }]
  methods := #[k3m0]
  instanceTypes := #[(.object "java/lang/String")]
  staticTypes := #[]
  resolved := Array.replicate 22 none
  statics := none }

def pool4 : Array CpInfo := pool [(1, .class_ 2), (0, u "java/io/Serializable"), (0, .class_ 4), (0, u "java/lang/Object")] 2

/-- java/io/Serializable -/
def k4 : Class := { plain "java/io/Serializable" (some 0) with
  accessFlags := 1537
  interfaces := #[]
  cf := some (fileOf pool4 1 #[] #[] 1537 3 #[] #[])
  fields := #[]
  methods := #[]
  instanceTypes := #[]
  staticTypes := #[]
  resolved := Array.replicate 7 none
  statics := none }

def pool5 : Array CpInfo := pool [(1, .class_ 2), (0, u "java/lang/Comparable"), (0, .class_ 4), (0, u "java/lang/Object")] 7

/-- java/lang/Comparable -/
def k5 : Class := { plain "java/lang/Comparable" (some 0) with
  accessFlags := 1537
  interfaces := #[]
  cf := some (fileOf pool5 1 #[] #[] 1537 3 #[] #[])
  fields := #[]
  methods := #[]
  instanceTypes := #[]
  staticTypes := #[]
  resolved := Array.replicate 12 none
  statics := none }

def pool6 : Array CpInfo := pool [(2, .class_ 4), (1, u "java/lang/CharSequence"), (42, .class_ 48), (0, u "java/lang/CharSequence$1CodePointIterator"), (10, .class_ 60), (0, u "java/lang/CharSequence$1CharIterator"), (5, .class_ 67), (0, u "java/lang/Object")] 63

/-- java/lang/CharSequence -/
def k6 : Class := { plain "java/lang/CharSequence" (some 0) with
  accessFlags := 1537
  interfaces := #[]
  cf := some (fileOf pool6 2 #[.nestMembers #[47, 59]] #[] 1537 66 #[] #[])
  fields := #[]
  methods := #[]
  instanceTypes := #[]
  staticTypes := #[]
  resolved := Array.replicate 131 none
  statics := none }

def pool7 : Array CpInfo := pool [(1, .class_ 2), (0, u "java/lang/constant/Constable"), (0, .class_ 4), (0, u "java/lang/Object")] 6

/-- java/lang/constant/Constable -/
def k7 : Class := { plain "java/lang/constant/Constable" (some 0) with
  accessFlags := 1537
  interfaces := #[]
  cf := some (fileOf pool7 1 #[] #[] 1537 3 #[] #[])
  fields := #[]
  methods := #[]
  instanceTypes := #[]
  staticTypes := #[]
  resolved := Array.replicate 11 none
  statics := none }

def pool8 : Array CpInfo := pool [(1, .class_ 2), (0, u "java/lang/constant/ConstantDesc"), (0, .class_ 4), (0, u "java/lang/Object")] 32

/-- java/lang/constant/ConstantDesc -/
def k8 : Class := { plain "java/lang/constant/ConstantDesc" (some 0) with
  accessFlags := 1537
  interfaces := #[]
  cf := some (fileOf pool8 1 #[] #[] 1537 3 #[] #[])
  fields := #[]
  methods := #[]
  instanceTypes := #[]
  staticTypes := #[]
  resolved := Array.replicate 37 none
  statics := none }

def pool9 : Array CpInfo := pool [(1, .methodref 2 3), (0, .class_ 4), (0, .nameAndType 5 6), (0, u "java/lang/Object"), (0, u "<init>"), (0, u "()V"), (2, .fieldref 10 11), (0, .class_ 12), (0, .nameAndType 13 14), (0, u "java/lang/String"), (0, u "value"), (0, u "[B"), (0, .fieldref 10 16), (0, .nameAndType 17 18), (0, u "coder"), (0, u "B"), (2, u "hash"), (0, u "I"), (2, u "hashIsZero"), (0, u "Z"), (0, .methodref 10 28), (0, .nameAndType 5 29), (0, u "([CIILjava/lang/Void;)V"), (8, .fieldref 10 39), (0, .nameAndType 40 26), (0, u "COMPACT_STRINGS"), (1, .class_ 44), (1, u "java/lang/StringUTF16"), (0, u "compress"), (1, .methodref 42 48), (0, .nameAndType 49 50), (0, u "coderFromArrayLen"), (0, u "([BI)B"), (2, u "toBytes"), (53, .class_ 109), (1, u "java/lang/StringLatin1"), (67, .methodref 42 178), (0, .nameAndType 45 179), (0, u "([CII)[B"), (29, .methodref 10 210), (0, .nameAndType 5 211), (0, u "([BB)V"), (157, u "(C)Z"), (205, .class_ 576), (0, u "java/lang/CharSequence"), (22, u "CASE_INSENSITIVE_ORDER"), (0, u "Ljava/util/Comparator;"), (181, u "valueOf"), (0, u "(C)Ljava/lang/String;"), (226, u "([C)V"), (4, .methodref 107 1016), (0, .nameAndType 1017 369), (0, u "canEncode"), (0, .methodref 107 1019), (0, .nameAndType 53 1020), (0, u "(C)[B"), (80, u "serialPersistentFields"), (0, u "[Ljava/io/ObjectStreamField;"), (0, .class_ 1104), (0, u "java/lang/String$CaseInsensitiveComparator"), (1, .class_ 1107), (0, u "java/io/Serializable"), (0, .class_ 1109), (0, u "java/lang/Comparable"), (0, .class_ 1111), (0, u "java/lang/constant/Constable"), (0, .class_ 1113), (0, u "java/lang/constant/ConstantDesc"), (2, u "serialVersionUID"), (0, u "J"), (3, u "REPL"), (0, u "C"), (2, u "LATIN1"), (1, u "UTF16")] 323

def k9m0 : Method := { name := "<init>", desc := "()V", sig := { parameters := [], returnType := none }, accessFlags := 1, code := none }
def k9c1 : Code := { maxStack := 5, maxLocals := 2, code := jdk_42_method_3_code, exceptionTable := #[], attributes := #[] }
def k9m1 : Method := { name := "<init>", desc := "([C)V", sig := { parameters := [(.array .char)], returnType := none }, accessFlags := 1, code := some k9c1 }
def k9c2 : Code := { maxStack := 4, maxLocals := 1, code := jdk_42_method_139_code, exceptionTable := #[], attributes := #[] }
def k9m2 : Method := { name := "valueOf", desc := "(C)Ljava/lang/String;", sig := { parameters := [.char], returnType := some (.object "java/lang/String") }, accessFlags := 9, code := some k9c2 }
def k9c3 : Code := { maxStack := 4, maxLocals := 6, code := jdk_42_method_149_code, exceptionTable := #[], attributes := #[] }
def k9m3 : Method := { name := "<init>", desc := "([CIILjava/lang/Void;)V", sig := { parameters := [(.array .char), .int, .int, (.object "java/lang/Void")], returnType := none }, accessFlags := 2, code := some k9c3 }
def k9c4 : Code := { maxStack := 2, maxLocals := 3, code := jdk_42_method_151_code, exceptionTable := #[], attributes := #[] }
def k9m4 : Method := { name := "<init>", desc := "([BB)V", sig := { parameters := [(.array .byte), .byte], returnType := none }, accessFlags := 0, code := some k9c4 }
/-- java/lang/String -/
def k9 : Class := { plain "java/lang/String" (some 0) with
  accessFlags := 49
  interfaces := #[4, 5, 6, 7, 8]
  cf := some (fileOf pool9 10 #[.nestMembers #[1103]] #[{ accessFlags := 1, nameIndex := 5, descriptorIndex := 6, attributes := #[] }, { accessFlags := 1, nameIndex := 5, descriptorIndex := 1010, attributes := #[] }, { accessFlags := 9, nameIndex := 782, descriptorIndex := 783, attributes := #[] }, { accessFlags := 2, nameIndex := 5, descriptorIndex := 29, attributes := #[] }, { accessFlags := 0, nameIndex := 5, descriptorIndex := 211, attributes := #[] }] 49 2 #[1106, 1108, 575, 1110, 1112] #[{ accessFlags := 18, nameIndex := 13, descriptorIndex := 14, attributes := #[] }, { accessFlags := 18, nameIndex := 17, descriptorIndex := 18, attributes := #[] }, { accessFlags := 2, nameIndex := 21, descriptorIndex := 22, attributes := #[] }, { accessFlags := 2, nameIndex := 25, descriptorIndex := 26, attributes := #[] }, { accessFlags := 26, nameIndex := 1116, descriptorIndex := 1117, attributes := #[] }, { accessFlags := 24, nameIndex := 40, descriptorIndex := 26, attributes := #[] }, { accessFlags := 26, nameIndex := 1101, descriptorIndex := 1102, attributes := #[] }, { accessFlags := 26, nameIndex := 1121, descriptorIndex := 1122, attributes := #[] }, { accessFlags := 25, nameIndex := 599, descriptorIndex := 600, attributes := #[] }, { accessFlags := 24, nameIndex := 1125, descriptorIndex := 18, attributes := #[] }, { accessFlags := 24, nameIndex := 1127, descriptorIndex := 18, attributes := #[] }])
  fields := #[{ name := "value", type := (.array .byte), accessFlags := 18, slot := 0, constantValue := 0 }, { name := "coder", type := .byte, accessFlags := 18, slot := 1, constantValue := 0 }, { name := "hash", type := .int, accessFlags := 2, slot := 2, constantValue := 0 }, { name := "hashIsZero", type := .boolean, accessFlags := 2, slot := 3, constantValue := 0 }, { name := "serialVersionUID", type := .long, accessFlags := 26, slot := 0, constantValue := 0 }, { name := "COMPACT_STRINGS", type := .boolean, accessFlags := 24, slot := 1, constantValue := 0 }, { name := "serialPersistentFields", type := (.array (.object "java/io/ObjectStreamField")), accessFlags := 26, slot := 2, constantValue := 0 }, { name := "REPL", type := .char, accessFlags := 26, slot := 3, constantValue := 0 }, { name := "CASE_INSENSITIVE_ORDER", type := (.object "java/util/Comparator"), accessFlags := 25, slot := 4, constantValue := 0 }, { name := "LATIN1", type := .byte, accessFlags := 24, slot := 5, constantValue := 0 }, { name := "UTF16", type := .byte, accessFlags := 24, slot := 6, constantValue := 0 }]
  methods := #[k9m0, k9m1, k9m2, k9m3, k9m4]
  instanceTypes := #[(.array .byte), .byte, .int, .boolean]
  staticTypes := #[.long, .boolean, (.array (.object "java/io/ObjectStreamField")), .char, (.object "java/util/Comparator"), .byte, .byte]
  resolved := Array.replicate 1451 none
  statics := some 0 }

def pool10 : Array CpInfo := pool [(6, .class_ 8), (1, u "java/lang/Object"), (0, u "<init>"), (0, u "()V"), (1, .class_ 14), (1, u "java/lang/StringUTF16"), (31, u "$assertionsDisabled"), (0, u "Z"), (13, u "HI_BYTE_SHIFT"), (0, u "I"), (2, u "LO_BYTE_SHIFT"), (49, .methodref 12 116), (0, .nameAndType 117 118), (0, u "compress"), (0, u "([CI[BII)I"), (3, u "([CII)[B"), (138, u "coderFromArrayLen"), (0, u "([BI)B"), (106, .class_ 371), (1, u "java/lang/StringUTF16$LinesSpliterator"), (58, u "MAX_LENGTH"), (196, .class_ 628), (0, u "java/lang/StringUTF16$CodePointsSpliterator"), (0, .class_ 630), (0, u "java/lang/StringUTF16$CharsSpliterator")] 4

def k10m0 : Method := { name := "<init>", desc := "()V", sig := { parameters := [], returnType := none }, accessFlags := 0, code := none }
def k10c1 : Code := { maxStack := 2, maxLocals := 2, code := jdk_52_method_15_code, exceptionTable := #[], attributes := #[] }
def k10m1 : Method := { name := "coderFromArrayLen", desc := "([BI)B", sig := { parameters := [(.array .byte), .int], returnType := some .byte }, accessFlags := 8, code := some k10c1 }
def k10c2 : Code := { maxStack := 5, maxLocals := 6, code := jdk_52_method_16_code, exceptionTable := #[], attributes := #[] }
def k10m2 : Method := { name := "compress", desc := "([CII)[B", sig := { parameters := [(.array .char), .int, .int], returnType := some (.array .byte) }, accessFlags := 9, code := some k10c2 }
def k10c3 : Code := { maxStack := 3, maxLocals := 7, code := jdk_52_method_21_code, exceptionTable := #[], attributes := #[] }
def k10m3 : Method := { name := "compress", desc := "([CI[BII)I", sig := { parameters := [(.array .char), .int, (.array .byte), .int, .int], returnType := some .int }, accessFlags := 9, code := some k10c3 }
/-- java/lang/StringUTF16 -/
def k10 : Class := { plain "java/lang/StringUTF16" (some 0) with
  accessFlags := 48
  interfaces := #[]
  cf := some (fileOf pool10 12 #[.nestMembers #[627, 629, 369]] #[{ accessFlags := 0, nameIndex := 9, descriptorIndex := 10, attributes := #[] }, { accessFlags := 8, nameIndex := 261, descriptorIndex := 262, attributes := #[] }, { accessFlags := 9, nameIndex := 117, descriptorIndex := 122, attributes := #[] }, { accessFlags := 9, nameIndex := 117, descriptorIndex := 118, attributes := #[] }] 48 6 #[] #[{ accessFlags := 26, nameIndex := 61, descriptorIndex := 62, attributes := #[] }, { accessFlags := 26, nameIndex := 65, descriptorIndex := 62, attributes := #[] }, { accessFlags := 24, nameIndex := 430, descriptorIndex := 62, attributes := #[] }, { accessFlags := 4120, nameIndex := 46, descriptorIndex := 47, attributes := #[] }])
  fields := #[{ name := "HI_BYTE_SHIFT", type := .int, accessFlags := 26, slot := 0, constantValue := 0 }, { name := "LO_BYTE_SHIFT", type := .int, accessFlags := 26, slot := 1, constantValue := 0 }, { name := "MAX_LENGTH", type := .int, accessFlags := 24, slot := 2, constantValue := 0 }, { name := "$assertionsDisabled", type := .boolean, accessFlags := 4120, slot := 3, constantValue := 0 }]
  methods := #[k10m0, k10m1, k10m2, k10m3]
  instanceTypes := #[]
  staticTypes := #[.int, .int, .int, .boolean]
  resolved := Array.replicate 635 none
  statics := none }

def pool11 : Array CpInfo := pool [(4, .class_ 6), (1, u "java/lang/Object"), (0, u "<init>"), (0, u "()V"), (5, .class_ 16), (1, u "java/lang/StringLatin1"), (73, u "canEncode"), (14, u "(C)Z"), (15, u "$assertionsDisabled"), (0, u "Z"), (98, .class_ 223), (1, u "java/lang/StringLatin1$LinesSpliterator"), (156, u "toBytes"), (1, u "(C)[B"), (7, .class_ 391), (0, u "java/lang/StringLatin1$CharsSpliterator")] 3

def k11m0 : Method := { name := "<init>", desc := "()V", sig := { parameters := [], returnType := none }, accessFlags := 0, code := none }
def k11c1 : Code := { maxStack := 2, maxLocals := 1, code := jdk_43_method_3_code, exceptionTable := #[], attributes := #[] }
def k11m1 : Method := { name := "canEncode", desc := "(C)Z", sig := { parameters := [.char], returnType := some .boolean }, accessFlags := 9, code := some k11c1 }
def k11c2 : Code := { maxStack := 4, maxLocals := 1, code := jdk_43_method_46_code, exceptionTable := #[], attributes := #[] }
def k11m2 : Method := { name := "toBytes", desc := "(C)[B", sig := { parameters := [.char], returnType := some (.array .byte) }, accessFlags := 9, code := some k11c2 }
/-- java/lang/StringLatin1 -/
def k11 : Class := { plain "java/lang/StringLatin1" (some 0) with
  accessFlags := 48
  interfaces := #[]
  cf := some (fileOf pool11 14 #[.nestMembers #[390, 221]] #[{ accessFlags := 0, nameIndex := 7, descriptorIndex := 8, attributes := #[] }, { accessFlags := 9, nameIndex := 90, descriptorIndex := 105, attributes := #[] }, { accessFlags := 9, nameIndex := 380, descriptorIndex := 382, attributes := #[] }] 48 4 #[] #[{ accessFlags := 4120, nameIndex := 121, descriptorIndex := 122, attributes := #[] }])
  fields := #[{ name := "$assertionsDisabled", type := .boolean, accessFlags := 4120, slot := 0, constantValue := 0 }]
  methods := #[k11m0, k11m1, k11m2]
  instanceTypes := #[]
  staticTypes := #[.boolean]
  resolved := Array.replicate 395 none
  statics := none }

def pool12 : Array CpInfo := pool [(1, .class_ 2), (0, u "com/example/pertinet/pertinet/satisfiability/Literal"), (0, .methodref 1 4), (0, .nameAndType 5 6), (0, u "<init>"), (0, u "(Lcom/example/pertinet/pertinet/satisfiability/Atom;Z)V"), (1, .class_ 10), (1, u "com/example/pertinet/pertinet/satisfiability/Formula"), (0, u "TRUE"), (0, u "Lcom/example/pertinet/pertinet/satisfiability/Formula;"), (2, u "FALSE"), (8, u "of"), (84, .class_ 110), (0, u "java/lang/Object"), (0, u "(Lcom/example/pertinet/pertinet/satisfiability/BooleanVariable;)Lcom/example/pertinet/pertinet/satisfiability/Formula;")] 15

def k12c0 : Code := { maxStack := 4, maxLocals := 1, code := prog_119_method_1_code, exceptionTable := #[], attributes := #[] }
def k12m0 : Method := { name := "of", desc := "(Lcom/example/pertinet/pertinet/satisfiability/BooleanVariable;)Lcom/example/pertinet/pertinet/satisfiability/Formula;", sig := { parameters := [(.object "com/example/pertinet/pertinet/satisfiability/BooleanVariable")], returnType := some (.object "com/example/pertinet/pertinet/satisfiability/Formula") }, accessFlags := 9, code := some k12c0 }
/-- com/example/pertinet/pertinet/satisfiability/Formula -/
def k12 : Class := { plain "com/example/pertinet/pertinet/satisfiability/Formula" (some 0) with
  accessFlags := 1537
  interfaces := #[]
  cf := some (fileOf pool12 8 #[] #[{ accessFlags := 9, nameIndex := 24, descriptorIndex := 111, attributes := #[] }] 1537 109 #[] #[{ accessFlags := 25, nameIndex := 11, descriptorIndex := 12, attributes := #[] }, { accessFlags := 25, nameIndex := 15, descriptorIndex := 12, attributes := #[] }])
  fields := #[{ name := "TRUE", type := (.object "com/example/pertinet/pertinet/satisfiability/Formula"), accessFlags := 25, slot := 0, constantValue := 0 }, { name := "FALSE", type := (.object "com/example/pertinet/pertinet/satisfiability/Formula"), accessFlags := 25, slot := 1, constantValue := 0 }]
  methods := #[k12m0]
  instanceTypes := #[]
  staticTypes := #[(.object "com/example/pertinet/pertinet/satisfiability/Formula"), (.object "com/example/pertinet/pertinet/satisfiability/Formula")]
  resolved := Array.replicate 127 none
  statics := none }

def pool13 : Array CpInfo := pool [(1, .methodref 2 3), (0, .class_ 4), (0, .nameAndType 5 6), (0, u "java/lang/Object"), (0, u "<init>"), (0, u "()V"), (0, .fieldref 8 9), (0, .class_ 10), (0, .nameAndType 11 12), (0, u "com/example/pertinet/pertinet/satisfiability/Literal"), (0, u "atom"), (0, u "Lcom/example/pertinet/pertinet/satisfiability/Atom;"), (0, .fieldref 8 14), (0, .nameAndType 15 16), (0, u "positive"), (0, u "Z"), (0, .class_ 18), (0, u "com/example/pertinet/pertinet/satisfiability/Formula"), (0, u "(Lcom/example/pertinet/pertinet/satisfiability/Atom;Z)V"), (2, u "getAtom"), (0, u "()Lcom/example/pertinet/pertinet/satisfiability/Atom;"), (0, u "isPositive"), (0, u "()Z")] 2

def k13c0 : Code := { maxStack := 2, maxLocals := 3, code := prog_126_method_1_code, exceptionTable := #[], attributes := #[] }
def k13m0 : Method := { name := "<init>", desc := "(Lcom/example/pertinet/pertinet/satisfiability/Atom;Z)V", sig := { parameters := [(.object "com/example/pertinet/pertinet/satisfiability/Atom"), .boolean], returnType := none }, accessFlags := 0, code := some k13c0 }
def k13c1 : Code := { maxStack := 1, maxLocals := 1, code := prog_126_method_2_code, exceptionTable := #[], attributes := #[] }
def k13m1 : Method := { name := "getAtom", desc := "()Lcom/example/pertinet/pertinet/satisfiability/Atom;", sig := { parameters := [], returnType := some (.object "com/example/pertinet/pertinet/satisfiability/Atom") }, accessFlags := 0, code := some k13c1 }
def k13c2 : Code := { maxStack := 1, maxLocals := 1, code := prog_126_method_3_code, exceptionTable := #[], attributes := #[] }
def k13m2 : Method := { name := "isPositive", desc := "()Z", sig := { parameters := [], returnType := some .boolean }, accessFlags := 0, code := some k13c2 }
/-- com/example/pertinet/pertinet/satisfiability/Literal -/
def k13 : Class := { plain "com/example/pertinet/pertinet/satisfiability/Literal" (some 0) with
  accessFlags := 48
  interfaces := #[12]
  cf := some (fileOf pool13 8 #[] #[{ accessFlags := 0, nameIndex := 5, descriptorIndex := 19, attributes := #[] }, { accessFlags := 0, nameIndex := 22, descriptorIndex := 23, attributes := #[] }, { accessFlags := 0, nameIndex := 24, descriptorIndex := 25, attributes := #[] }] 48 2 #[17] #[{ accessFlags := 18, nameIndex := 11, descriptorIndex := 12, attributes := #[] }, { accessFlags := 18, nameIndex := 15, descriptorIndex := 16, attributes := #[] }])
  fields := #[{ name := "atom", type := (.object "com/example/pertinet/pertinet/satisfiability/Atom"), accessFlags := 18, slot := 0, constantValue := 0 }, { name := "positive", type := .boolean, accessFlags := 18, slot := 1, constantValue := 0 }]
  methods := #[k13m0, k13m1, k13m2]
  instanceTypes := #[(.object "com/example/pertinet/pertinet/satisfiability/Atom"), .boolean]
  staticTypes := #[]
  resolved := Array.replicate 28 none
  statics := none }

def pool14 : Array CpInfo := pool [(2, .class_ 4), (1, u "java/lang/Object"), (0, u "<init>"), (0, u "()V"), (17, .class_ 26), (1, u "jdk/internal/util/Preconditions"), (28, .class_ 56), (0, u "jdk/internal/util/Preconditions$4"), (57, .class_ 115), (0, u "jdk/internal/util/Preconditions$1"), (7, u "SIOOBE_FORMATTER"), (0, u "Ljava/util/function/BiFunction;"), (0, .class_ 126), (0, u "jdk/internal/util/Preconditions$2"), (3, u "AIOOBE_FORMATTER"), (0, .class_ 132), (0, u "jdk/internal/util/Preconditions$3"), (3, u "IOOBE_FORMATTER")] 57

def k14m0 : Method := { name := "<init>", desc := "()V", sig := { parameters := [], returnType := none }, accessFlags := 1, code := none }
/-- jdk/internal/util/Preconditions -/
def k14 : Class := { plain "jdk/internal/util/Preconditions" (some 0) with
  accessFlags := 33
  interfaces := #[]
  cf := some (fileOf pool14 24 #[.nestMembers #[55, 131, 125, 114]] #[{ accessFlags := 1, nameIndex := 5, descriptorIndex := 6, attributes := #[] }] 33 2 #[] #[{ accessFlags := 25, nameIndex := 123, descriptorIndex := 124, attributes := #[] }, { accessFlags := 25, nameIndex := 130, descriptorIndex := 124, attributes := #[] }, { accessFlags := 25, nameIndex := 136, descriptorIndex := 124, attributes := #[] }])
  fields := #[{ name := "SIOOBE_FORMATTER", type := (.object "java/util/function/BiFunction"), accessFlags := 25, slot := 0, constantValue := 0 }, { name := "AIOOBE_FORMATTER", type := (.object "java/util/function/BiFunction"), accessFlags := 25, slot := 1, constantValue := 0 }, { name := "IOOBE_FORMATTER", type := (.object "java/util/function/BiFunction"), accessFlags := 25, slot := 2, constantValue := 0 }]
  methods := #[k14m0]
  instanceTypes := #[]
  staticTypes := #[(.object "java/util/function/BiFunction"), (.object "java/util/function/BiFunction"), (.object "java/util/function/BiFunction")]
  resolved := Array.replicate 194 none
  statics := some 1 }

def pool15 : Array CpInfo := pool [(9, u "<init>"), (6, .class_ 18), (1, u "java/lang/Object"), (0, u "()V"), (1, .class_ 23), (1, u "jdk/internal/util/ArraysSupport"), (0, u "LOG2_ARRAY_LONG_INDEX_SCALE"), (0, u "I"), (2, u "U"), (0, u "Ljdk/internal/misc/Unsafe;"), (8, u "BIG_ENDIAN"), (0, u "Z"), (8, u "LOG2_BYTE_BIT_SIZE"), (4, u "LOG2_ARRAY_INT_INDEX_SCALE"), (54, u "JLA"), (0, u "Ljdk/internal/access/JavaLangAccess;"), (11, u "LOG2_ARRAY_BOOLEAN_INDEX_SCALE"), (9, u "LOG2_ARRAY_BYTE_INDEX_SCALE"), (5, u "LOG2_ARRAY_CHAR_INDEX_SCALE"), (5, u "LOG2_ARRAY_SHORT_INDEX_SCALE"), (18, u "LOG2_ARRAY_FLOAT_INDEX_SCALE"), (24, u "LOG2_ARRAY_DOUBLE_INDEX_SCALE"), (89, u "T_BOOLEAN"), (2, u "T_CHAR"), (1, u "T_FLOAT"), (1, u "T_DOUBLE"), (1, u "T_BYTE"), (1, u "T_SHORT"), (1, u "T_INT"), (1, u "T_LONG"), (1, u "SOFT_MAX_ARRAY_LENGTH")] 83

def k15m0 : Method := { name := "<init>", desc := "()V", sig := { parameters := [], returnType := none }, accessFlags := 2, code := none }
/-- jdk/internal/util/ArraysSupport -/
def k15 : Class := { plain "jdk/internal/util/ArraysSupport" (some 0) with
  accessFlags := 33
  interfaces := #[]
  cf := some (fileOf pool15 21 #[] #[{ accessFlags := 2, nameIndex := 9, descriptorIndex := 19, attributes := #[] }] 33 16 #[] #[{ accessFlags := 24, nameIndex := 28, descriptorIndex := 29, attributes := #[] }, { accessFlags := 26, nameIndex := 38, descriptorIndex := 39, attributes := #[] }, { accessFlags := 25, nameIndex := 121, descriptorIndex := 25, attributes := #[] }, { accessFlags := 25, nameIndex := 131, descriptorIndex := 25, attributes := #[] }, { accessFlags := 25, nameIndex := 137, descriptorIndex := 25, attributes := #[] }, { accessFlags := 25, nameIndex := 143, descriptorIndex := 25, attributes := #[] }, { accessFlags := 25, nameIndex := 53, descriptorIndex := 25, attributes := #[] }, { accessFlags := 25, nameIndex := 24, descriptorIndex := 25, attributes := #[] }, { accessFlags := 25, nameIndex := 162, descriptorIndex := 25, attributes := #[] }, { accessFlags := 25, nameIndex := 187, descriptorIndex := 25, attributes := #[] }, { accessFlags := 26, nameIndex := 48, descriptorIndex := 25, attributes := #[] }, { accessFlags := 25, nameIndex := 277, descriptorIndex := 25, attributes := #[] }, { accessFlags := 25, nameIndex := 280, descriptorIndex := 25, attributes := #[] }, { accessFlags := 25, nameIndex := 282, descriptorIndex := 25, attributes := #[] }, { accessFlags := 25, nameIndex := 284, descriptorIndex := 25, attributes := #[] }, { accessFlags := 25, nameIndex := 286, descriptorIndex := 25, attributes := #[] }, { accessFlags := 25, nameIndex := 288, descriptorIndex := 25, attributes := #[] }, { accessFlags := 25, nameIndex := 290, descriptorIndex := 25, attributes := #[] }, { accessFlags := 25, nameIndex := 292, descriptorIndex := 25, attributes := #[] }, { accessFlags := 26, nameIndex := 108, descriptorIndex := 109, attributes := #[] }, { accessFlags := 25, nameIndex := 294, descriptorIndex := 25, attributes := #[] }])
  fields := #[{ name := "U", type := (.object "jdk/internal/misc/Unsafe"), accessFlags := 24, slot := 0, constantValue := 0 }, { name := "BIG_ENDIAN", type := .boolean, accessFlags := 26, slot := 1, constantValue := 0 }, { name := "LOG2_ARRAY_BOOLEAN_INDEX_SCALE", type := .int, accessFlags := 25, slot := 2, constantValue := 0 }, { name := "LOG2_ARRAY_BYTE_INDEX_SCALE", type := .int, accessFlags := 25, slot := 3, constantValue := 0 }, { name := "LOG2_ARRAY_CHAR_INDEX_SCALE", type := .int, accessFlags := 25, slot := 4, constantValue := 0 }, { name := "LOG2_ARRAY_SHORT_INDEX_SCALE", type := .int, accessFlags := 25, slot := 5, constantValue := 0 }, { name := "LOG2_ARRAY_INT_INDEX_SCALE", type := .int, accessFlags := 25, slot := 6, constantValue := 0 }, { name := "LOG2_ARRAY_LONG_INDEX_SCALE", type := .int, accessFlags := 25, slot := 7, constantValue := 0 }, { name := "LOG2_ARRAY_FLOAT_INDEX_SCALE", type := .int, accessFlags := 25, slot := 8, constantValue := 0 }, { name := "LOG2_ARRAY_DOUBLE_INDEX_SCALE", type := .int, accessFlags := 25, slot := 9, constantValue := 0 }, { name := "LOG2_BYTE_BIT_SIZE", type := .int, accessFlags := 26, slot := 10, constantValue := 0 }, { name := "T_BOOLEAN", type := .int, accessFlags := 25, slot := 11, constantValue := 0 }, { name := "T_CHAR", type := .int, accessFlags := 25, slot := 12, constantValue := 0 }, { name := "T_FLOAT", type := .int, accessFlags := 25, slot := 13, constantValue := 0 }, { name := "T_DOUBLE", type := .int, accessFlags := 25, slot := 14, constantValue := 0 }, { name := "T_BYTE", type := .int, accessFlags := 25, slot := 15, constantValue := 0 }, { name := "T_SHORT", type := .int, accessFlags := 25, slot := 16, constantValue := 0 }, { name := "T_INT", type := .int, accessFlags := 25, slot := 17, constantValue := 0 }, { name := "T_LONG", type := .int, accessFlags := 25, slot := 18, constantValue := 0 }, { name := "JLA", type := (.object "jdk/internal/access/JavaLangAccess"), accessFlags := 26, slot := 19, constantValue := 0 }, { name := "SOFT_MAX_ARRAY_LENGTH", type := .int, accessFlags := 25, slot := 20, constantValue := 0 }]
  methods := #[k15m0]
  instanceTypes := #[]
  staticTypes := #[(.object "jdk/internal/misc/Unsafe"), .boolean, .int, .int, .int, .int, .int, .int, .int, .int, .int, .int, .int, .int, .int, .int, .int, .int, .int, (.object "jdk/internal/access/JavaLangAccess"), .int]
  resolved := Array.replicate 378 none
  statics := none }

def pool16 : Array CpInfo := pool [(1, u "java/lang/Cloneable"), (0, .class_ 1), (0, u "java/lang/Object"), (0, .class_ 3)] 3

/-- java/lang/Cloneable -/
def k16 : Class := { plain "java/lang/Cloneable" (some 0) with
  accessFlags := 1537
  interfaces := #[]
  cf := some (fileOf pool16 2 #[] #[] 1537 4 #[] #[])
  fields := #[]
  methods := #[]
  instanceTypes := #[]
  staticTypes := #[]
  resolved := Array.replicate 8 none
  statics := none }

/-- the primitive byte -/
def k17 : Class := { plain "byte" none with kind := .primitive 'B', accessFlags := 0x411 }
/-- [B -/
def k18 : Class := { plain "[B" (some 0) with kind := .array 17 .byte, interfaces := #[16, 4], accessFlags := 1041 }

/-- the primitive char -/
def k19 : Class := { plain "char" none with kind := .primitive 'C', accessFlags := 0x411 }
/-- [C -/
def k20 : Class := { plain "[C" (some 0) with kind := .array 19 .char, interfaces := #[16, 4], accessFlags := 1041 }

/-- the primitive int -/
def k21 : Class := { plain "int" none with kind := .primitive 'I', accessFlags := 0x411 }
/-- [I -/
def k22 : Class := { plain "[I" (some 0) with kind := .array 21 .int, interfaces := #[16, 4], accessFlags := 1041 }

def heap : Heap := #[{ cls := 9, slots := #[.long 0, .int 1, .null, .int 0, .null, .int 0, .int 0], vm := .statics 9 },
  { cls := 14, slots := #[.null, .null, .null], vm := .statics 14 }]
def classes : Array Class := #[k0, k1, k2, k3, k4, k5, k6, k7, k8, k9, k10, k11, k12, k13, k14, k15, k16, k17, k18, k19, k20, k21, k22]
def interned : List (Array UInt16 × Addr) := []
def slotsUsed : Nat := 10
def theMethod : MethodId := ⟨1, 1⟩
def args0 : Array Value := #[.int 5, .int 9, .int 7]
def aboutOver (below : List Frame) : State where
  vm := { classes := classes, interned := interned.toArray }
  heap := heap
  slotsUsed := slotsUsed
  threads := #[{ frames := .invoking theMethod args0 :: below }]
def below0 : List Frame := [.native { method := ⟨0, 0⟩, args := #[] }]
def about1 : State := aboutOver below0
def p0 : Program := .bare "" "" ""
def e0 : Env := launch0.env 0 0 0
theorem w_frames : about1.frames = Frame.invoking theMethod args0 :: below0 := rfl
set_option maxRecDepth 65536 in
theorem w_args : argsFit about1.vm theMethod args0 = true := by decide +kernel
set_option maxRecDepth 65536 in
theorem w_heap : heapFits about1 = true := by decide +kernel
set_option maxRecDepth 65536 in
theorem w_runnable : about1.curStatus? = some .runnable := by decide +kernel
set_option maxRecDepth 65536 in
theorem w_alone : about1.alone = true := by decide +kernel
set_option maxRecDepth 65536 in
theorem w_named : about1.methodNamed? x = some theMethod := by decide +kernel
set_option maxRecDepth 65536 in
theorem w_hears : about1.hears theMethod below0 = true := by decide +kernel
set_option maxRecDepth 65536 in
theorem w_ripe : about1.ripe theMethod args0 below0 = true := by decide +kernel
theorem w_running : about1.status = .running := rfl
set_option maxRecDepth 65536 in
theorem w_room : about1.hasRoom e0.platform room_1 = true :=
  launch0.hasRoom_least _ room_1 (by decide +kernel) (by decide +kernel) (by decide +kernel) (by decide +kernel) (by decide +kernel) (by decide +kernel)
theorem allAtoms_all (ts : List Jvm.Cond) (a : Array Jvm.Value) (st : Jvm.State) : (allAtoms ts).before a st = ts.all (fun c => c.before a st) := by
  induction ts with
  | nil => rfl
  | cons c t ih =>
    show (Jvm.Cond.and c (allAtoms t)).before a st = _
    rw [Jvm.Cond.before_and, ih, List.all_cons]
def words1 : List Jvm.Cond := Jvm.Cond.code x code maxLocals ret :: tables_1
/-- a 'code' word, met by the world's own term for the bytes: nothing is compared byte by byte -/
theorem code_word {y : MethodName} {bytes : ByteArray} {mx : Nat} {rt : Option FieldType} {a : Array Value} {s : State} {m : MethodId} {meth : Method} {c : Code} (h1 : s.methodNamed? y = some m) (h2 : s.vm.method? m = some meth) (h3 : meth.code = some c) (h4 : c.code = bytes)
    (h5 : (c.maxLocals == mx && c.exceptionTable.isEmpty && decide (c.maxStack ≤ mostOperands) && decide (meth.sig.returnType = rt) && !meth.locks && decide (parseMethodDescriptor y.desc = some meth.sig)) = true) : (Jvm.Cond.code y bytes mx rt).before a s = true := by
  simp only [Bool.and_eq_true, beq_iff_eq, Bool.not_eq_true', decide_eq_true_eq] at h5
  obtain ⟨⟨⟨⟨⟨g1, g2⟩, g3⟩, g4⟩, g5⟩, g6⟩ := h5
  simp [Cond.before, Cond.holds, Cond.value, h1, h2, h3, h4, g1, g2, g3, g4, g5, g6]
def isCode : Jvm.Cond → Bool
  | .code _ _ _ _ => true
  | _ => false
theorem all_split {L : List Jvm.Cond} {P : Jvm.Cond → Bool} (h1 : L.all (fun c => isCode c || P c) = true) (h2 : ∀ c ∈ L.filter isCode, P c = true) : L.all P = true := by
  refine List.all_eq_true.mpr fun c hc => ?_
  have h := List.all_eq_true.mp h1 c hc
  rcases Bool.eq_false_or_eq_true (isCode c) with hi | hi
  · exact h2 c (List.mem_filter.mpr ⟨hc, hi⟩)
  · simpa [hi] using h
set_option maxRecDepth 65536 in
theorem w_c0 : (Jvm.Cond.code x code maxLocals ret).before args0 about1 = true := code_word (m := ⟨1, 1⟩) (meth := k1m1) (c := k1c1) (by decide +kernel) rfl rfl rfl (by decide +kernel)
set_option maxRecDepth 65536 in
theorem w_c1 : (Jvm.Cond.code ({ cls := "java/lang/String", name := "<init>", desc := "([C)V" } : Jvm.MethodName) jdk_42_method_3_code (2 : Nat) (Option.none : Option Jvm.ClassFile.FieldType)).before args0 about1 = true := code_word (m := ⟨9, 1⟩) (meth := k9m1) (c := k9c1) (by decide +kernel) rfl rfl rfl (by decide +kernel)
set_option maxRecDepth 65536 in
theorem w_c2 : (Jvm.Cond.code ({ cls := "java/lang/String", name := "<init>", desc := "([CIILjava/lang/Void;)V" } : Jvm.MethodName) jdk_42_method_149_code (6 : Nat) (Option.none : Option Jvm.ClassFile.FieldType)).before args0 about1 = true := code_word (m := ⟨9, 3⟩) (meth := k9m3) (c := k9c3) (by decide +kernel) rfl rfl rfl (by decide +kernel)
set_option maxRecDepth 65536 in
theorem w_c3 : (Jvm.Cond.code ({ cls := "java/lang/Object", name := "<init>", desc := "()V" } : Jvm.MethodName) object_method_1_code (1 : Nat) (Option.none : Option Jvm.ClassFile.FieldType)).before args0 about1 = true := code_word (m := ⟨0, 0⟩) (meth := k0m0) (c := k0c0) (by decide +kernel) rfl rfl rfl (by decide +kernel)
set_option maxRecDepth 65536 in
theorem w_c4 : (Jvm.Cond.code ({ cls := "java/lang/StringUTF16", name := "compress", desc := "([CII)[B" } : Jvm.MethodName) jdk_52_method_16_code (6 : Nat) (Option.some (Jvm.ClassFile.FieldType.array Jvm.ClassFile.FieldType.byte))).before args0 about1 = true := code_word (m := ⟨10, 2⟩) (meth := k10m2) (c := k10c2) (by decide +kernel) rfl rfl rfl (by decide +kernel)
set_option maxRecDepth 65536 in
theorem w_c5 : (Jvm.Cond.code ({ cls := "java/lang/StringUTF16", name := "compress", desc := "([CI[BII)I" } : Jvm.MethodName) jdk_52_method_21_code (7 : Nat) (Option.some Jvm.ClassFile.FieldType.int)).before args0 about1 = true := code_word (m := ⟨10, 3⟩) (meth := k10m3) (c := k10c3) (by decide +kernel) rfl rfl rfl (by decide +kernel)
set_option maxRecDepth 65536 in
theorem w_c6 : (Jvm.Cond.code ({ cls := "java/lang/StringUTF16", name := "coderFromArrayLen", desc := "([BI)B" } : Jvm.MethodName) jdk_52_method_15_code (2 : Nat) (Option.some Jvm.ClassFile.FieldType.byte)).before args0 about1 = true := code_word (m := ⟨10, 1⟩) (meth := k10m1) (c := k10c1) (by decide +kernel) rfl rfl rfl (by decide +kernel)
set_option maxRecDepth 65536 in
theorem w_c7 : (Jvm.Cond.code ({ cls := "com/example/pertinet/pertinet/satisfiability/BooleanVariable", name := "<init>", desc := "(Ljava/lang/String;)V" } : Jvm.MethodName) prog_118_method_1_code (2 : Nat) (Option.none : Option Jvm.ClassFile.FieldType)).before args0 about1 = true := code_word (m := ⟨3, 0⟩) (meth := k3m0) (c := k3c0) (by decide +kernel) rfl rfl rfl (by decide +kernel)
set_option maxRecDepth 65536 in
theorem w_c8 : (Jvm.Cond.code ({ cls := "java/lang/String", name := "valueOf", desc := "(C)Ljava/lang/String;" } : Jvm.MethodName) jdk_42_method_139_code (1 : Nat) (Option.some (Jvm.ClassFile.FieldType.object "java/lang/String"))).before args0 about1 = true := code_word (m := ⟨9, 2⟩) (meth := k9m2) (c := k9c2) (by decide +kernel) rfl rfl rfl (by decide +kernel)
set_option maxRecDepth 65536 in
theorem w_c9 : (Jvm.Cond.code ({ cls := "java/lang/StringLatin1", name := "canEncode", desc := "(C)Z" } : Jvm.MethodName) jdk_43_method_3_code (1 : Nat) (Option.some Jvm.ClassFile.FieldType.boolean)).before args0 about1 = true := code_word (m := ⟨11, 1⟩) (meth := k11m1) (c := k11c1) (by decide +kernel) rfl rfl rfl (by decide +kernel)
set_option maxRecDepth 65536 in
theorem w_c10 : (Jvm.Cond.code ({ cls := "java/lang/StringLatin1", name := "toBytes", desc := "(C)[B" } : Jvm.MethodName) jdk_43_method_46_code (1 : Nat) (Option.some (Jvm.ClassFile.FieldType.array Jvm.ClassFile.FieldType.byte))).before args0 about1 = true := code_word (m := ⟨11, 2⟩) (meth := k11m2) (c := k11c2) (by decide +kernel) rfl rfl rfl (by decide +kernel)
set_option maxRecDepth 65536 in
theorem w_c11 : (Jvm.Cond.code ({ cls := "java/lang/String", name := "<init>", desc := "([BB)V" } : Jvm.MethodName) jdk_42_method_151_code (3 : Nat) (Option.none : Option Jvm.ClassFile.FieldType)).before args0 about1 = true := code_word (m := ⟨9, 4⟩) (meth := k9m4) (c := k9c4) (by decide +kernel) rfl rfl rfl (by decide +kernel)
set_option maxRecDepth 65536 in
theorem w_c12 : (Jvm.Cond.code ({ cls := "com/example/pertinet/pertinet/satisfiability/Formula", name := "of", desc := "(Lcom/example/pertinet/pertinet/satisfiability/BooleanVariable;)Lcom/example/pertinet/pertinet/satisfiability/Formula;" } : Jvm.MethodName) prog_119_method_1_code (1 : Nat) (Option.some (Jvm.ClassFile.FieldType.object "com/example/pertinet/pertinet/satisfiability/Formula"))).before args0 about1 = true := code_word (m := ⟨12, 0⟩) (meth := k12m0) (c := k12c0) (by decide +kernel) rfl rfl rfl (by decide +kernel)
set_option maxRecDepth 65536 in
theorem w_c13 : (Jvm.Cond.code ({ cls := "com/example/pertinet/pertinet/satisfiability/Literal", name := "<init>", desc := "(Lcom/example/pertinet/pertinet/satisfiability/Atom;Z)V" } : Jvm.MethodName) prog_126_method_1_code (3 : Nat) (Option.none : Option Jvm.ClassFile.FieldType)).before args0 about1 = true := code_word (m := ⟨13, 0⟩) (meth := k13m0) (c := k13c0) (by decide +kernel) rfl rfl rfl (by decide +kernel)
set_option maxRecDepth 65536 in
theorem w_c14 : (Jvm.Cond.code ({ cls := "com/example/pertinet/pertinet/satisfiability/Literal", name := "getAtom", desc := "()Lcom/example/pertinet/pertinet/satisfiability/Atom;" } : Jvm.MethodName) prog_126_method_2_code (1 : Nat) (Option.some (Jvm.ClassFile.FieldType.object "com/example/pertinet/pertinet/satisfiability/Atom"))).before args0 about1 = true := code_word (m := ⟨13, 1⟩) (meth := k13m1) (c := k13c1) (by decide +kernel) rfl rfl rfl (by decide +kernel)
set_option maxRecDepth 65536 in
theorem w_c15 : (Jvm.Cond.code ({ cls := "com/example/pertinet/pertinet/satisfiability/Literal", name := "isPositive", desc := "()Z" } : Jvm.MethodName) prog_126_method_3_code (1 : Nat) (Option.some Jvm.ClassFile.FieldType.boolean)).before args0 about1 = true := code_word (m := ⟨13, 2⟩) (meth := k13m2) (c := k13c2) (by decide +kernel) rfl rfl rfl (by decide +kernel)
def codes1 : List Jvm.Cond := [Jvm.Cond.code x code maxLocals ret, Jvm.Cond.code ({ cls := "java/lang/String", name := "<init>", desc := "([C)V" } : Jvm.MethodName) jdk_42_method_3_code (2 : Nat) (Option.none : Option Jvm.ClassFile.FieldType), Jvm.Cond.code ({ cls := "java/lang/String", name := "<init>", desc := "([CIILjava/lang/Void;)V" } : Jvm.MethodName) jdk_42_method_149_code (6 : Nat) (Option.none : Option Jvm.ClassFile.FieldType), Jvm.Cond.code ({ cls := "java/lang/Object", name := "<init>", desc := "()V" } : Jvm.MethodName) object_method_1_code (1 : Nat) (Option.none : Option Jvm.ClassFile.FieldType), Jvm.Cond.code ({ cls := "java/lang/StringUTF16", name := "compress", desc := "([CII)[B" } : Jvm.MethodName) jdk_52_method_16_code (6 : Nat) (Option.some (Jvm.ClassFile.FieldType.array Jvm.ClassFile.FieldType.byte)), Jvm.Cond.code ({ cls := "java/lang/StringUTF16", name := "compress", desc := "([CI[BII)I" } : Jvm.MethodName) jdk_52_method_21_code (7 : Nat) (Option.some Jvm.ClassFile.FieldType.int), Jvm.Cond.code ({ cls := "java/lang/StringUTF16", name := "coderFromArrayLen", desc := "([BI)B" } : Jvm.MethodName) jdk_52_method_15_code (2 : Nat) (Option.some Jvm.ClassFile.FieldType.byte), Jvm.Cond.code ({ cls := "com/example/pertinet/pertinet/satisfiability/BooleanVariable", name := "<init>", desc := "(Ljava/lang/String;)V" } : Jvm.MethodName) prog_118_method_1_code (2 : Nat) (Option.none : Option Jvm.ClassFile.FieldType), Jvm.Cond.code ({ cls := "java/lang/String", name := "valueOf", desc := "(C)Ljava/lang/String;" } : Jvm.MethodName) jdk_42_method_139_code (1 : Nat) (Option.some (Jvm.ClassFile.FieldType.object "java/lang/String")), Jvm.Cond.code ({ cls := "java/lang/StringLatin1", name := "canEncode", desc := "(C)Z" } : Jvm.MethodName) jdk_43_method_3_code (1 : Nat) (Option.some Jvm.ClassFile.FieldType.boolean), Jvm.Cond.code ({ cls := "java/lang/StringLatin1", name := "toBytes", desc := "(C)[B" } : Jvm.MethodName) jdk_43_method_46_code (1 : Nat) (Option.some (Jvm.ClassFile.FieldType.array Jvm.ClassFile.FieldType.byte)), Jvm.Cond.code ({ cls := "java/lang/String", name := "<init>", desc := "([BB)V" } : Jvm.MethodName) jdk_42_method_151_code (3 : Nat) (Option.none : Option Jvm.ClassFile.FieldType), Jvm.Cond.code ({ cls := "com/example/pertinet/pertinet/satisfiability/Formula", name := "of", desc := "(Lcom/example/pertinet/pertinet/satisfiability/BooleanVariable;)Lcom/example/pertinet/pertinet/satisfiability/Formula;" } : Jvm.MethodName) prog_119_method_1_code (1 : Nat) (Option.some (Jvm.ClassFile.FieldType.object "com/example/pertinet/pertinet/satisfiability/Formula")), Jvm.Cond.code ({ cls := "com/example/pertinet/pertinet/satisfiability/Literal", name := "<init>", desc := "(Lcom/example/pertinet/pertinet/satisfiability/Atom;Z)V" } : Jvm.MethodName) prog_126_method_1_code (3 : Nat) (Option.none : Option Jvm.ClassFile.FieldType), Jvm.Cond.code ({ cls := "com/example/pertinet/pertinet/satisfiability/Literal", name := "getAtom", desc := "()Lcom/example/pertinet/pertinet/satisfiability/Atom;" } : Jvm.MethodName) prog_126_method_2_code (1 : Nat) (Option.some (Jvm.ClassFile.FieldType.object "com/example/pertinet/pertinet/satisfiability/Atom")), Jvm.Cond.code ({ cls := "com/example/pertinet/pertinet/satisfiability/Literal", name := "isPositive", desc := "()Z" } : Jvm.MethodName) prog_126_method_3_code (1 : Nat) (Option.some Jvm.ClassFile.FieldType.boolean)]
set_option maxRecDepth 65536 in
theorem codes_eq : words1.filter isCode = codes1 := rfl
theorem w_codes : ∀ c ∈ words1.filter isCode, c.before args0 about1 = true := by
  rw [codes_eq]
  intro c hc
  simp only [codes1, List.mem_cons, List.not_mem_nil, or_false] at hc
  rcases hc with rfl | rfl | rfl | rfl | rfl | rfl | rfl | rfl | rfl | rfl | rfl | rfl | rfl | rfl | rfl | rfl
  · exact w_c0
  · exact w_c1
  · exact w_c2
  · exact w_c3
  · exact w_c4
  · exact w_c5
  · exact w_c6
  · exact w_c7
  · exact w_c8
  · exact w_c9
  · exact w_c10
  · exact w_c11
  · exact w_c12
  · exact w_c13
  · exact w_c14
  · exact w_c15
set_option maxRecDepth 65536 in
theorem w_t1 : (words1.take 24).all (fun c => isCode c || c.before args0 about1) = true := by decide +kernel
set_option maxRecDepth 65536 in
theorem w_t2 : ((words1.drop 24).take 24).all (fun c => isCode c || c.before args0 about1) = true := by decide +kernel
set_option maxRecDepth 65536 in
theorem w_t3 : (((words1.drop 24).drop 24).take 24).all (fun c => isCode c || c.before args0 about1) = true := by decide +kernel
set_option maxRecDepth 65536 in
theorem w_t4 : (((words1.drop 24).drop 24).drop 24).all (fun c => isCode c || c.before args0 about1) = true := by decide +kernel
theorem w_tables : (allAtoms (Jvm.Cond.code x code maxLocals ret :: tables_1)).before args0 about1 = true := by
  rw [allAtoms_all]
  show words1.all (fun c => c.before args0 about1) = true
  refine all_split ?_ w_codes
  rw [← List.take_append_drop 24 words1, List.all_append, w_t1, ← List.take_append_drop 24 (words1.drop 24), List.all_append, w_t2, ← List.take_append_drop 24 ((words1.drop 24).drop 24), List.all_append, w_t3, w_t4]
  rfl
set_option maxRecDepth 65536 in
theorem w_rest : rest_1_c.before args0 about1 = true := by decide +kernel
set_option maxRecDepth 65536 in
theorem w_case : (Jvm.Cond.and given_1 narrow_1).before args0 about1 = true := by decide +kernel
theorem w_applies : (headSpec (Jvm.Cond.code x code maxLocals ret :: tables_1) room_1).applies x e0.platform about1 = true :=
  (Spec.applies_iff w_frames).mpr ⟨w_running, w_runnable, w_alone, w_named, w_hears, w_ripe, w_room, w_tables⟩
theorem atStart : AtStart classFile x code maxLocals ret World_1 tables_1 room_1 Calls_1 rest_1 Pre_1 launch0 p0 e0 about1 theMethod args0 below0 :=
  ⟨lists_1, trivial, launch0.admits_env _ _ _, launch0.least_env, fairChoices_fair.cas, fairChoices_fair.clock, w_frames, w_args, w_heap, w_applies, trivial, w_rest, w_case⟩
end start1
theorem witness_1 : WitnessClaimed_1 := ⟨start1.p0, start1.e0, start1.about1, start1.theMethod, start1.args0, start1.below0, start1.atStart⟩
end Jvm.Pilot.@@N@@

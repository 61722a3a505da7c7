import JvmDerived
import JvmDerived.Pilot.@@N@@Statement
import JvmDerived.Pilot.@@N@@Code
set_option linter.unusedVariables false
set_option linter.unusedSimpArgs false
@@BLOCK:NumsL.lean.txt@@
namespace Jvm.RoadKit
open Sem ClassFile Op Lib Jvm.Stand Jvm.Free Jvm.LawKit
section New
variable {p : Program} {l : Launch} {e : Env} {R : Room} {s : State} {m : MethodId} {args : Array Value} {below : List Frame} {meth : Method} {c : Code} {T : State} {locs : List Loc} {cells slots : Nat}
theorem retI (X : Stand p l e R s m args below meth c T locs cells slots) (hx : p.tables.exec = Jvm.exec) {pc : Nat} {Ls : Array Slot} {z : Int32} {rest : List Value} (hret : meth.sig.returnType = some .int) (hd : decode c.code pc = .ok (.ireturn, 1)) {fs : List Frame}
    (hl : ∀ (f : JFrame) (acts : List Action), f.method = m → f.locked = none → f.entered = [] → (doReturn e (T.setTop f) acts (some (.int z))).1 = T.setFrames fs) : Steps p.tables e below (T.setTop (mkF m pc Ls (.int z :: rest))) (T.setFrames fs) := by
  have hm' : T.vm.method? m = some meth := X.method'
  have hn : narrow .int (.int z) = .int z := rfl
  show Steps p.tables e below (T.setTop { method := m, pc := pc, locals := Ls, stack := _ :: rest, locked := none }) _
  jvm_step X.here [X.here.top, hx, hd, hm', hret, hn]
  first | (intro acts; rw [hl _ acts rfl rfl rfl]) | rw [hl _ _ rfl rfl rfl]
  exact Steps.refl _
end New
end Jvm.RoadKit
namespace Jvm.Pilot.@@N@@
open Jvm Jvm.ClassFile Sem Op Lib Jvm.Free Jvm.Stand Jvm.LawKit Jvm.RoadKit Bundle Jvm.Pilot.@@N@@.Jvm.D

theorem d2_0 : decode jdk_30_method_1_code 0 = .ok (.aload_n 0, 1) := by decide +kernel
theorem d2_1 : decode jdk_30_method_1_code 1 = .ok (.invokespecial 1, 3) := by decide +kernel
theorem d2_4 : decode jdk_30_method_1_code 4 = .ok (.return_, 1) := by decide +kernel
theorem pn_0 : plainName "java/lang/Record" = true := by first | (simp [plainName, overriddenIn]; done) | decide +kernel
theorem ef_2 (m : MethodId) (x0 : Addr) : entryFrame m #[(.ref x0)] 1 = mkF m 0 #[.val (.ref x0)] [] := by first | (simp [entryFrame, mkF, argsToLocals, Value.category]; done) | rfl
def Q2 (Z : State) (a1 : Addr) (h0 : Heap) (n0 : Nat) (v : Option Value) (h : Heap) (L : List Loc) : Prop := v = none ∧ Fr n0 L ∧ h = h0
set_option maxRecDepth 65536 in
set_option maxHeartbeats 40000000 in
theorem rm2 (l : Launch) (Z : State) (a0 : Array Value) (hw : ∀ d ∈ tables_1, d.before a0 Z = true) (ws : List Jvm.Cond) (a1 : Addr) (h0 : Heap) (n0 : Nat) (Z0 : n0 ≤ h0.size) :
    MetFree l (⟨"java/lang/Record", "<init>", "()V"⟩ : MethodName) (head1 (Jvm.Cond.code (⟨"java/lang/Record", "<init>", "()V"⟩ : MethodName) jdk_30_method_1_code 1 none :: ws) ({ frames := 1, cells := 0, slots := 0, locals := 12 } : Room)) (fun a U => a = #[(.ref a1)] ∧ Z.Warmed39 U.vm ∧ U.heap = h0) (fun _ _ _ _ _ => True) (fun _ U o U' => ∃ v L, o = .returned v ∧ Q2 Z a1 h0 n0 v U'.heap L ∧ FrameEnd U o U' L ({ frames := 1, cells := 0, slots := 0, locals := 12 } : Room).cells ({ frames := 1, cells := 0, slots := 0, locals := 12 } : Room).slots) := by
  refine MetFree.of_bodySF (plainFor_of_name pn_0) hisR ?_
  intro p e s m args below meth c s₁ Bd hml0 hP hK
  obtain ⟨rfl, hZ, hh⟩ := hP
  have hx := Bd.exec
  have hby := Bd.bytes
  have hml : c.maxLocals = 1 := hml0
  have hown : s.vm.findClass "java/lang/Record" = some m.cls := findClass_of_methodNamed Bd.named
  have hnm := (name_of_methodNamed Bd.named Bd.method).1
  have X0 : Stand p l e ({ frames := 1, cells := 0, slots := 0, locals := 12 } : Room) s m #[(.ref a1)] below meth c s₁ [] 0 0 := Stand.of_body Bd
  have e0 : s₁.heap = h0 := by rw [← hh, Bd.state]; rfl
  have N0 := Fr.nil n0
  have pre0 : ∀ t, Steps p.tables e below (s₁.setTop (mkF m 0 #[.val (.ref a1)] [])) t → Steps p.tables e below (s₁.setTop (entryFrame m #[(.ref a1)] 1)) t := fun t k => castTop (ef_2 m a1) k
  obtain ⟨T1, X1, e1, st1⟩ := initO X0 hx hZ hown (hw _ (List.mem_of_getElem? (i := 11) rfl)) (hw _ (List.mem_of_getElem? (i := 12) rfl)) (hw _ (List.mem_of_getElem? (i := 13) rfl)) e0 (g := (mkF m 1 #[.val (.ref a1)] [(.ref a1)])) rfl (by rw [hml]; rfl) rfl (hb hby d2_1) (by decide) (W := 0) (by show 2 * 0 + _ ≤ _; exact Nat.le_of_eq rfl) (by decide)
  obtain ⟨fs, hr, hrun, hended, hW, hsame⟩ := X1.leave (v := none) (fun _ => rfl)
  refine ⟨_, _, pre0 _ ?_, hrun, hended, _, _, rfl, ?_, ⟨_, rfl⟩, hW, hsame.mono (by decide) (by decide)⟩
  · show Steps p.tables e below (s₁.setTop (mkF m 0 #[.val (.ref a1)] [])) _
    refine XS.aloadN X0.here hx rfl (hb hby d2_0) rfl rfl ?_
    show Steps p.tables e below (s₁.setTop (mkF m 1 #[.val (.ref a1)] [(.ref a1)])) _
    refine st1 _ ?_
    show Steps p.tables e below (T1.setTop (mkF m 4 #[.val (.ref a1)] [])) _
    exact X1.returnOut hx Bd.returns (hb hby d2_4) hr
  · show Q2 Z a1 h0 n0 _ T1.heap _
    rw [e1]
    exact ⟨rfl, N0, rfl⟩
theorem d1_0 : decode prog_23_method_1_code 0 = .ok (.aload_n 0, 1) := by decide +kernel
theorem d1_1 : decode prog_23_method_1_code 1 = .ok (.invokespecial 1, 3) := by decide +kernel
theorem pd_0 : parseMethodDescriptor "()V" = some ⟨[], none⟩ := by decide +kernel
theorem d1_4 : decode prog_23_method_1_code 4 = .ok (.aload_n 0, 1) := by decide +kernel
theorem d1_5 : decode prog_23_method_1_code 5 = .ok (.iload_n 1, 1) := by decide +kernel
theorem d1_6 : decode prog_23_method_1_code 6 = .ok (.putfield 7, 3) := by decide +kernel
theorem d1_9 : decode prog_23_method_1_code 9 = .ok (.aload_n 0, 1) := by decide +kernel
theorem d1_10 : decode prog_23_method_1_code 10 = .ok (.iload_n 2, 1) := by decide +kernel
theorem d1_11 : decode prog_23_method_1_code 11 = .ok (.putfield 13, 3) := by decide +kernel
theorem d1_14 : decode prog_23_method_1_code 14 = .ok (.aload_n 0, 1) := by decide +kernel
theorem d1_15 : decode prog_23_method_1_code 15 = .ok (.iload_n 3, 1) := by decide +kernel
theorem d1_16 : decode prog_23_method_1_code 16 = .ok (.putfield 16, 3) := by decide +kernel
theorem d1_19 : decode prog_23_method_1_code 19 = .ok (.aload_n 0, 1) := by decide +kernel
theorem d1_20 : decode prog_23_method_1_code 20 = .ok (.iload 4, 2) := by decide +kernel
theorem d1_22 : decode prog_23_method_1_code 22 = .ok (.putfield 19, 3) := by decide +kernel
theorem d1_25 : decode prog_23_method_1_code 25 = .ok (.aload_n 0, 1) := by decide +kernel
theorem d1_26 : decode prog_23_method_1_code 26 = .ok (.iload 5, 2) := by decide +kernel
theorem d1_28 : decode prog_23_method_1_code 28 = .ok (.putfield 22, 3) := by decide +kernel
theorem d1_31 : decode prog_23_method_1_code 31 = .ok (.return_, 1) := by decide +kernel
theorem pn_1 : plainName "com/example/waymark/waymark/MessageHeaderLayout" = true := by first | (simp [plainName, overriddenIn]; done) | decide +kernel
theorem ef_1 (m : MethodId) (x0 : Addr) (x1 : Int32) (x2 : Int32) (x3 : Int32) (x4 : Int32) (x5 : Int32) : entryFrame m #[(.ref x0), (.int x1), (.int x2), (.int x3), (.int x4), (.int x5)] 6 = mkF m 0 #[.val (.ref x0), .val (.int x1), .val (.int x2), .val (.int x3), .val (.int x4), .val (.int x5)] [] := by first | (simp [entryFrame, mkF, argsToLocals, Value.category]; done) | rfl
def Q1 (Z : State) (a1 : Addr) (p2 : Int32) (p3 : Int32) (p4 : Int32) (p5 : Int32) (p6 : Int32) (h0 : Heap) (n0 : Nat) (v : Option Value) (h : Heap) (L : List Loc) : Prop := v = none ∧ Fr n0 L ∧ Keep h0 h [a1] ∧ Fld Z h a1 "com/example/waymark/waymark/MessageHeaderLayout" "flags" "I" (.int p2) ∧ Fld Z h a1 "com/example/waymark/waymark/MessageHeaderLayout" "addressLength" "I" (.int p3) ∧ Fld Z h a1 "com/example/waymark/waymark/MessageHeaderLayout" "hopLimit" "I" (.int p4) ∧ Fld Z h a1 "com/example/waymark/waymark/MessageHeaderLayout" "hopCount" "I" (.int p5) ∧ Fld Z h a1 "com/example/waymark/waymark/MessageHeaderLayout" "length" "I" (.int p6)
set_option maxRecDepth 65536 in
set_option maxHeartbeats 40000000 in
theorem rm1 (l : Launch) (Z : State) (a0 : Array Value) (hw : ∀ d ∈ tables_1, d.before a0 Z = true) (ws : List Jvm.Cond) (a1 : Addr) (p2 : Int32) (p3 : Int32) (p4 : Int32) (p5 : Int32) (p6 : Int32) (h0 : Heap) (n0 : Nat) (Z0 : n0 ≤ h0.size) (E_a1 : Exa Z h0 a1 "com/example/waymark/waymark/MessageHeaderLayout") (g_a1 : n0 ≤ a1) (F_a1_flags : Fld Z h0 a1 "com/example/waymark/waymark/MessageHeaderLayout" "flags" "I" (.int (0 : Int32))) (F_a1_addressLength : Fld Z h0 a1 "com/example/waymark/waymark/MessageHeaderLayout" "addressLength" "I" (.int (0 : Int32))) (F_a1_hopLimit : Fld Z h0 a1 "com/example/waymark/waymark/MessageHeaderLayout" "hopLimit" "I" (.int (0 : Int32))) (F_a1_hopCount : Fld Z h0 a1 "com/example/waymark/waymark/MessageHeaderLayout" "hopCount" "I" (.int (0 : Int32))) (F_a1_length : Fld Z h0 a1 "com/example/waymark/waymark/MessageHeaderLayout" "length" "I" (.int (0 : Int32))) :
    MetFree l (⟨"com/example/waymark/waymark/MessageHeaderLayout", "<init>", "(IIIII)V"⟩ : MethodName) (head1 (Jvm.Cond.code (⟨"com/example/waymark/waymark/MessageHeaderLayout", "<init>", "(IIIII)V"⟩ : MethodName) prog_23_method_1_code 6 none :: ws) ({ frames := 2, cells := 0, slots := 0, locals := 24 } : Room)) (fun a U => a = #[(.ref a1), (.int p2), (.int p3), (.int p4), (.int p5), (.int p6)] ∧ Z.Warmed39 U.vm ∧ U.heap = h0) (fun _ _ _ _ _ => True) (fun _ U o U' => ∃ v L, o = .returned v ∧ Q1 Z a1 p2 p3 p4 p5 p6 h0 n0 v U'.heap L ∧ FrameEnd U o U' L ({ frames := 2, cells := 0, slots := 0, locals := 24 } : Room).cells ({ frames := 2, cells := 0, slots := 0, locals := 24 } : Room).slots) := by
  refine MetFree.of_bodySF (plainFor_of_name pn_1) hisR ?_
  intro p e s m args below meth c s₁ Bd hml0 hP hK
  obtain ⟨rfl, hZ, hh⟩ := hP
  have hx := Bd.exec
  have hby := Bd.bytes
  have hml : c.maxLocals = 6 := hml0
  have hown : s.vm.findClass "com/example/waymark/waymark/MessageHeaderLayout" = some m.cls := findClass_of_methodNamed Bd.named
  have hnm := (name_of_methodNamed Bd.named Bd.method).1
  have X0 : Stand p l e ({ frames := 2, cells := 0, slots := 0, locals := 24 } : Room) s m #[(.ref a1), (.int p2), (.int p3), (.int p4), (.int p5), (.int p6)] below meth c s₁ [] 0 0 := Stand.of_body Bd
  have e0 : s₁.heap = h0 := by rw [← hh, Bd.state]; rfl
  have N0 := Fr.nil n0
  have pre0 : ∀ t, Steps p.tables e below (s₁.setTop (mkF m 0 #[.val (.ref a1), .val (.int p2), .val (.int p3), .val (.int p4), .val (.int p5), .val (.int p6)] [])) t → Steps p.tables e below (s₁.setTop (entryFrame m #[(.ref a1), (.int p2), (.int p3), (.int p4), (.int p5), (.int p6)] 6)) t := fun t k => castTop (ef_1 m a1 p2 p3 p4 p5 p6) k
  obtain ⟨_, _, ⟨T1, L1, k1, n1⟩, -, X1, ⟨Lc1, hQ1, l1, y1, z1⟩, st1⟩ := X0.specialBack hx (y := (⟨"java/lang/Record", "<init>", "()V"⟩ : MethodName)) rfl hown (mvT hZ (hw _ (List.mem_of_getElem? (i := 6) rfl))) (mvT hZ (hw _ (List.mem_of_getElem? (i := 7) rfl))) (mvT hZ (hw _ (List.mem_of_getElem? (i := 10) rfl))) (by decide) (backOf (W := 0) (rm2 l Z a0 hw [] a1 h0 n0 Z0) hZ (hw _ (List.mem_of_getElem? (i := 10) rfl)) (hw _ (List.mem_of_getElem? (i := 9) rfl)) (by decide) (by decide)) (g := (mkF m 1 #[.val (.ref a1), .val (.int p2), .val (.int p3), .val (.int p4), .val (.int p5), .val (.int p6)] [(.ref a1)])) rfl (by rw [hml]; rfl) (Steps.refl _) (a := a1) (argsL := []) (rest := []) (lenOf pd_0 rfl) rfl (by show 2 * 0 + _ ≤ _; exact Nat.le_of_eq rfl) (hb hby d1_1) (fun _ _ => ⟨rfl, e0, (by decide : 0 + 0 ≤ _), (by decide : 0 + 0 ≤ _)⟩)
  dsimp only [Pt.U, Pt.locs, Pt.cells, Pt.slots] at X1 l1 y1 z1 st1 hQ1
  subst l1 y1 z1
  obtain ⟨rfl, N1q, e1⟩ := hQ1
  have N1 := Fr.app N0 N1q
  obtain ⟨T2, h2, X2, e2, W2, st2⟩ := putF X1 hx hZ hown (host := "") (Or.inl (hw _ (List.mem_of_getElem? (i := 14) rfl))) Via.refl e1 F_a1_flags E_a1 (Or.inr ⟨(hw _ (List.mem_of_getElem? (i := 15) rfl)), rfl, hnm⟩) (hw _ (List.mem_of_getElem? (i := 1) rfl)) (ty := .int) (by decide) rfl rfl (g := (mkF m 6 #[.val (.ref a1), .val (.int p2), .val (.int p3), .val (.int p4), .val (.int p5), .val (.int p6)] [(.int p2), (.ref a1)])) rfl rfl (hb hby d1_6)
  have Fw2 := F_a1_flags.same W2
  have K2 : Keep h0 h2 [a1] := (Keep.refl h0 [a1]).wr W2 (Or.inl (List.mem_of_getElem? (i := 0) rfl))
  have N2 := Fr.snoc X2 N1 g_a1
  have F4 := (E_a1.wr W2)
  have F5 := (F_a1_addressLength.other W2 (Or.inr (slot_ne (Or.inr (hw _ (List.mem_of_getElem? (i := 17) rfl))) (Or.inr (hw _ (List.mem_of_getElem? (i := 15) rfl))) (by decide) (t := .int) (t' := .int) (by decide) (by decide))))
  obtain ⟨T3, h3, X3, e3, W3, st3⟩ := putF X2 hx hZ hown (host := "") (Or.inl (hw _ (List.mem_of_getElem? (i := 16) rfl))) Via.refl e2 F5 F4 (Or.inr ⟨(hw _ (List.mem_of_getElem? (i := 17) rfl)), rfl, hnm⟩) (hw _ (List.mem_of_getElem? (i := 1) rfl)) (ty := .int) (by decide) rfl rfl (g := (mkF m 11 #[.val (.ref a1), .val (.int p2), .val (.int p3), .val (.int p4), .val (.int p5), .val (.int p6)] [(.int p3), (.ref a1)])) rfl rfl (hb hby d1_11)
  have Fw3 := F5.same W3
  have K3 : Keep h0 h3 [a1] := K2.wr W3 (Or.inl (List.mem_of_getElem? (i := 0) rfl))
  have N3 := Fr.snoc X3 N2 g_a1
  have F7 := (F4.wr W3)
  have F8 := ((F_a1_hopLimit.other W2 (Or.inr (slot_ne (Or.inr (hw _ (List.mem_of_getElem? (i := 19) rfl))) (Or.inr (hw _ (List.mem_of_getElem? (i := 15) rfl))) (by decide) (t := .int) (t' := .int) (by decide) (by decide)))).other W3 (Or.inr (slot_ne (Or.inr (hw _ (List.mem_of_getElem? (i := 19) rfl))) (Or.inr (hw _ (List.mem_of_getElem? (i := 17) rfl))) (by decide) (t := .int) (t' := .int) (by decide) (by decide))))
  obtain ⟨T6, h6, X6, e6, W6, st6⟩ := putF X3 hx hZ hown (host := "") (Or.inl (hw _ (List.mem_of_getElem? (i := 18) rfl))) Via.refl e3 F8 F7 (Or.inr ⟨(hw _ (List.mem_of_getElem? (i := 19) rfl)), rfl, hnm⟩) (hw _ (List.mem_of_getElem? (i := 1) rfl)) (ty := .int) (by decide) rfl rfl (g := (mkF m 16 #[.val (.ref a1), .val (.int p2), .val (.int p3), .val (.int p4), .val (.int p5), .val (.int p6)] [(.int p4), (.ref a1)])) rfl rfl (hb hby d1_16)
  have Fw6 := F8.same W6
  have K6 : Keep h0 h6 [a1] := K3.wr W6 (Or.inl (List.mem_of_getElem? (i := 0) rfl))
  have N6 := Fr.snoc X6 N3 g_a1
  have F10 := (F7.wr W6)
  have F11 := (((F_a1_hopCount.other W2 (Or.inr (slot_ne (Or.inr (hw _ (List.mem_of_getElem? (i := 21) rfl))) (Or.inr (hw _ (List.mem_of_getElem? (i := 15) rfl))) (by decide) (t := .int) (t' := .int) (by decide) (by decide)))).other W3 (Or.inr (slot_ne (Or.inr (hw _ (List.mem_of_getElem? (i := 21) rfl))) (Or.inr (hw _ (List.mem_of_getElem? (i := 17) rfl))) (by decide) (t := .int) (t' := .int) (by decide) (by decide)))).other W6 (Or.inr (slot_ne (Or.inr (hw _ (List.mem_of_getElem? (i := 21) rfl))) (Or.inr (hw _ (List.mem_of_getElem? (i := 19) rfl))) (by decide) (t := .int) (t' := .int) (by decide) (by decide))))
  obtain ⟨T9, h9, X9, e9, W9, st9⟩ := putF X6 hx hZ hown (host := "") (Or.inl (hw _ (List.mem_of_getElem? (i := 20) rfl))) Via.refl e6 F11 F10 (Or.inr ⟨(hw _ (List.mem_of_getElem? (i := 21) rfl)), rfl, hnm⟩) (hw _ (List.mem_of_getElem? (i := 1) rfl)) (ty := .int) (by decide) rfl rfl (g := (mkF m 22 #[.val (.ref a1), .val (.int p2), .val (.int p3), .val (.int p4), .val (.int p5), .val (.int p6)] [(.int p5), (.ref a1)])) rfl rfl (hb hby d1_22)
  have Fw9 := F11.same W9
  have K9 : Keep h0 h9 [a1] := K6.wr W9 (Or.inl (List.mem_of_getElem? (i := 0) rfl))
  have N9 := Fr.snoc X9 N6 g_a1
  have F13 := (F10.wr W9)
  have F14 := ((((F_a1_length.other W2 (Or.inr (slot_ne (Or.inr (hw _ (List.mem_of_getElem? (i := 23) rfl))) (Or.inr (hw _ (List.mem_of_getElem? (i := 15) rfl))) (by decide) (t := .int) (t' := .int) (by decide) (by decide)))).other W3 (Or.inr (slot_ne (Or.inr (hw _ (List.mem_of_getElem? (i := 23) rfl))) (Or.inr (hw _ (List.mem_of_getElem? (i := 17) rfl))) (by decide) (t := .int) (t' := .int) (by decide) (by decide)))).other W6 (Or.inr (slot_ne (Or.inr (hw _ (List.mem_of_getElem? (i := 23) rfl))) (Or.inr (hw _ (List.mem_of_getElem? (i := 19) rfl))) (by decide) (t := .int) (t' := .int) (by decide) (by decide)))).other W9 (Or.inr (slot_ne (Or.inr (hw _ (List.mem_of_getElem? (i := 23) rfl))) (Or.inr (hw _ (List.mem_of_getElem? (i := 21) rfl))) (by decide) (t := .int) (t' := .int) (by decide) (by decide))))
  obtain ⟨T12, h12, X12, e12, W12, st12⟩ := putF X9 hx hZ hown (host := "") (Or.inl (hw _ (List.mem_of_getElem? (i := 22) rfl))) Via.refl e9 F14 F13 (Or.inr ⟨(hw _ (List.mem_of_getElem? (i := 23) rfl)), rfl, hnm⟩) (hw _ (List.mem_of_getElem? (i := 1) rfl)) (ty := .int) (by decide) rfl rfl (g := (mkF m 28 #[.val (.ref a1), .val (.int p2), .val (.int p3), .val (.int p4), .val (.int p5), .val (.int p6)] [(.int p6), (.ref a1)])) rfl rfl (hb hby d1_28)
  have Fw12 := F14.same W12
  have K12 : Keep h0 h12 [a1] := K9.wr W12 (Or.inl (List.mem_of_getElem? (i := 0) rfl))
  have N12 := Fr.snoc X12 N9 g_a1
  obtain ⟨fs, hr, hrun, hended, hW, hsame⟩ := X12.leave (v := none) (fun _ => rfl)
  refine ⟨_, _, pre0 _ ?_, hrun, hended, _, _, rfl, ?_, ⟨_, rfl⟩, hW, hsame.mono (by decide) (by decide)⟩
  · show Steps p.tables e below (s₁.setTop (mkF m 0 #[.val (.ref a1), .val (.int p2), .val (.int p3), .val (.int p4), .val (.int p5), .val (.int p6)] [])) _
    refine XS.aloadN X0.here hx rfl (hb hby d1_0) rfl rfl ?_
    show Steps p.tables e below (s₁.setTop (mkF m 1 #[.val (.ref a1), .val (.int p2), .val (.int p3), .val (.int p4), .val (.int p5), .val (.int p6)] [(.ref a1)])) _
    refine st1.trans ?_
    show Steps p.tables e below (T1.setTop (mkF m 4 #[.val (.ref a1), .val (.int p2), .val (.int p3), .val (.int p4), .val (.int p5), .val (.int p6)] [])) _
    refine XS.aloadN X1.here hx rfl (hb hby d1_4) rfl rfl ?_
    show Steps p.tables e below (T1.setTop (mkF m 5 #[.val (.ref a1), .val (.int p2), .val (.int p3), .val (.int p4), .val (.int p5), .val (.int p6)] [(.ref a1)])) _
    refine XS.iloadN X1.here hx rfl (hb hby d1_5) rfl ?_
    show Steps p.tables e below (T1.setTop (mkF m 6 #[.val (.ref a1), .val (.int p2), .val (.int p3), .val (.int p4), .val (.int p5), .val (.int p6)] [(.int p2), (.ref a1)])) _
    refine st2 _ ?_
    show Steps p.tables e below (T2.setTop (mkF m 9 #[.val (.ref a1), .val (.int p2), .val (.int p3), .val (.int p4), .val (.int p5), .val (.int p6)] [])) _
    refine XS.aloadN X2.here hx rfl (hb hby d1_9) rfl rfl ?_
    show Steps p.tables e below (T2.setTop (mkF m 10 #[.val (.ref a1), .val (.int p2), .val (.int p3), .val (.int p4), .val (.int p5), .val (.int p6)] [(.ref a1)])) _
    refine XS.iloadN X2.here hx rfl (hb hby d1_10) rfl ?_
    show Steps p.tables e below (T2.setTop (mkF m 11 #[.val (.ref a1), .val (.int p2), .val (.int p3), .val (.int p4), .val (.int p5), .val (.int p6)] [(.int p3), (.ref a1)])) _
    refine st3 _ ?_
    show Steps p.tables e below (T3.setTop (mkF m 14 #[.val (.ref a1), .val (.int p2), .val (.int p3), .val (.int p4), .val (.int p5), .val (.int p6)] [])) _
    refine XS.aloadN X3.here hx rfl (hb hby d1_14) rfl rfl ?_
    show Steps p.tables e below (T3.setTop (mkF m 15 #[.val (.ref a1), .val (.int p2), .val (.int p3), .val (.int p4), .val (.int p5), .val (.int p6)] [(.ref a1)])) _
    refine XS.iloadN X3.here hx rfl (hb hby d1_15) rfl ?_
    show Steps p.tables e below (T3.setTop (mkF m 16 #[.val (.ref a1), .val (.int p2), .val (.int p3), .val (.int p4), .val (.int p5), .val (.int p6)] [(.int p4), (.ref a1)])) _
    refine st6 _ ?_
    show Steps p.tables e below (T6.setTop (mkF m 19 #[.val (.ref a1), .val (.int p2), .val (.int p3), .val (.int p4), .val (.int p5), .val (.int p6)] [])) _
    refine XS.aloadN X6.here hx rfl (hb hby d1_19) rfl rfl ?_
    show Steps p.tables e below (T6.setTop (mkF m 20 #[.val (.ref a1), .val (.int p2), .val (.int p3), .val (.int p4), .val (.int p5), .val (.int p6)] [(.ref a1)])) _
    refine XS.iload X6.here hx rfl (hb hby d1_20) rfl ?_
    show Steps p.tables e below (T6.setTop (mkF m 22 #[.val (.ref a1), .val (.int p2), .val (.int p3), .val (.int p4), .val (.int p5), .val (.int p6)] [(.int p5), (.ref a1)])) _
    refine st9 _ ?_
    show Steps p.tables e below (T9.setTop (mkF m 25 #[.val (.ref a1), .val (.int p2), .val (.int p3), .val (.int p4), .val (.int p5), .val (.int p6)] [])) _
    refine XS.aloadN X9.here hx rfl (hb hby d1_25) rfl rfl ?_
    show Steps p.tables e below (T9.setTop (mkF m 26 #[.val (.ref a1), .val (.int p2), .val (.int p3), .val (.int p4), .val (.int p5), .val (.int p6)] [(.ref a1)])) _
    refine XS.iload X9.here hx rfl (hb hby d1_26) rfl ?_
    show Steps p.tables e below (T9.setTop (mkF m 28 #[.val (.ref a1), .val (.int p2), .val (.int p3), .val (.int p4), .val (.int p5), .val (.int p6)] [(.int p6), (.ref a1)])) _
    refine st12 _ ?_
    show Steps p.tables e below (T12.setTop (mkF m 31 #[.val (.ref a1), .val (.int p2), .val (.int p3), .val (.int p4), .val (.int p5), .val (.int p6)] [])) _
    exact X12.returnOut hx Bd.returns (hb hby d1_31) hr
  · show Q1 Z a1 p2 p3 p4 p5 p6 h0 n0 _ T12.heap _
    rw [e12]
    have F16 := ((((Fw2.other W3 (Or.inr (slot_ne (Or.inr (hw _ (List.mem_of_getElem? (i := 15) rfl))) (Or.inr (hw _ (List.mem_of_getElem? (i := 17) rfl))) (by decide) (t := .int) (t' := .int) (by decide) (by decide)))).other W6 (Or.inr (slot_ne (Or.inr (hw _ (List.mem_of_getElem? (i := 15) rfl))) (Or.inr (hw _ (List.mem_of_getElem? (i := 19) rfl))) (by decide) (t := .int) (t' := .int) (by decide) (by decide)))).other W9 (Or.inr (slot_ne (Or.inr (hw _ (List.mem_of_getElem? (i := 15) rfl))) (Or.inr (hw _ (List.mem_of_getElem? (i := 21) rfl))) (by decide) (t := .int) (t' := .int) (by decide) (by decide)))).other W12 (Or.inr (slot_ne (Or.inr (hw _ (List.mem_of_getElem? (i := 15) rfl))) (Or.inr (hw _ (List.mem_of_getElem? (i := 23) rfl))) (by decide) (t := .int) (t' := .int) (by decide) (by decide))))
    have F17 := (((Fw3.other W6 (Or.inr (slot_ne (Or.inr (hw _ (List.mem_of_getElem? (i := 17) rfl))) (Or.inr (hw _ (List.mem_of_getElem? (i := 19) rfl))) (by decide) (t := .int) (t' := .int) (by decide) (by decide)))).other W9 (Or.inr (slot_ne (Or.inr (hw _ (List.mem_of_getElem? (i := 17) rfl))) (Or.inr (hw _ (List.mem_of_getElem? (i := 21) rfl))) (by decide) (t := .int) (t' := .int) (by decide) (by decide)))).other W12 (Or.inr (slot_ne (Or.inr (hw _ (List.mem_of_getElem? (i := 17) rfl))) (Or.inr (hw _ (List.mem_of_getElem? (i := 23) rfl))) (by decide) (t := .int) (t' := .int) (by decide) (by decide))))
    have F18 := ((Fw6.other W9 (Or.inr (slot_ne (Or.inr (hw _ (List.mem_of_getElem? (i := 19) rfl))) (Or.inr (hw _ (List.mem_of_getElem? (i := 21) rfl))) (by decide) (t := .int) (t' := .int) (by decide) (by decide)))).other W12 (Or.inr (slot_ne (Or.inr (hw _ (List.mem_of_getElem? (i := 19) rfl))) (Or.inr (hw _ (List.mem_of_getElem? (i := 23) rfl))) (by decide) (t := .int) (t' := .int) (by decide) (by decide))))
    have F19 := (Fw9.other W12 (Or.inr (slot_ne (Or.inr (hw _ (List.mem_of_getElem? (i := 21) rfl))) (Or.inr (hw _ (List.mem_of_getElem? (i := 23) rfl))) (by decide) (t := .int) (t' := .int) (by decide) (by decide))))
    exact ⟨rfl, N12, K12, F16, F17, F18, F19, Fw12⟩
theorem d4_0 : decode prog_23_method_3_code 0 = .ok (.aload_n 0, 1) := by decide +kernel
theorem d4_1 : decode prog_23_method_3_code 1 = .ok (.getfield 7, 3) := by decide +kernel
theorem d4_4 : decode prog_23_method_3_code 4 = .ok (.iload_n 1, 1) := by decide +kernel
theorem d4_5 : decode prog_23_method_3_code 5 = .ok (.iand, 1) := by decide +kernel
theorem d4_6 : decode prog_23_method_3_code 6 = .ok (.ifCond .eq 7, 3) := by decide +kernel
theorem d4_13 : decode prog_23_method_3_code 13 = .ok (.iconst 0, 1) := by decide +kernel
theorem d4_14 : decode prog_23_method_3_code 14 = .ok (.ireturn, 1) := by decide +kernel
theorem d4_9 : decode prog_23_method_3_code 9 = .ok (.iconst 1, 1) := by decide +kernel
theorem d4_10 : decode prog_23_method_3_code 10 = .ok (.goto 4, 3) := by decide +kernel
def f4 (p2 : Int32) (w1 : Int32) : Int32 := if (w1 &&& p2) = (0 : Int32) then (0 : Int32) else (1 : Int32)
theorem ef_4 (m : MethodId) (x0 : Addr) (x1 : Int32) : entryFrame m #[(.ref x0), (.int x1)] 2 = mkF m 0 #[.val (.ref x0), .val (.int x1)] [] := by first | (simp [entryFrame, mkF, argsToLocals, Value.category]; done) | rfl
def Q4 (Z : State) (a1 : Addr) (p2 : Int32) (w1 : Int32) (h0 : Heap) (n0 : Nat) (v : Option Value) (h : Heap) (L : List Loc) : Prop := v = some (.int (f4 p2 w1)) ∧ Fr n0 L ∧ h = h0
set_option maxRecDepth 65536 in
set_option maxHeartbeats 40000000 in
theorem rm4 (l : Launch) (Z : State) (a0 : Array Value) (hw : ∀ d ∈ tables_1, d.before a0 Z = true) (ws : List Jvm.Cond) (a1 : Addr) (p2 : Int32) (w1 : Int32) (h0 : Heap) (n0 : Nat) (Z0 : n0 ≤ h0.size) (F_a1_flags : Fld Z h0 a1 "com/example/waymark/waymark/MessageHeaderLayout" "flags" "I" (.int w1)) :
    MetFree l (⟨"com/example/waymark/waymark/MessageHeaderLayout", "has", "(I)Z"⟩ : MethodName) (head1 (Jvm.Cond.code (⟨"com/example/waymark/waymark/MessageHeaderLayout", "has", "(I)Z"⟩ : MethodName) prog_23_method_3_code 2 (some .boolean) :: ws) ({ frames := 0, cells := 0, slots := 0, locals := 0 } : Room)) (fun a U => a = #[(.ref a1), (.int p2)] ∧ Z.Warmed39 U.vm ∧ U.heap = h0) (fun _ _ _ _ _ => True) (fun _ U o U' => ∃ v L, o = .returned v ∧ Q4 Z a1 p2 w1 h0 n0 v U'.heap L ∧ FrameEnd U o U' L ({ frames := 0, cells := 0, slots := 0, locals := 0 } : Room).cells ({ frames := 0, cells := 0, slots := 0, locals := 0 } : Room).slots) := by
  refine MetFree.of_bodySF (plainFor_of_name pn_1) hisR ?_
  intro p e s m args below meth c s₁ Bd hml0 hP hK
  obtain ⟨rfl, hZ, hh⟩ := hP
  have hx := Bd.exec
  have hby := Bd.bytes
  have hml : c.maxLocals = 2 := hml0
  have hown : s.vm.findClass "com/example/waymark/waymark/MessageHeaderLayout" = some m.cls := findClass_of_methodNamed Bd.named
  have hnm := (name_of_methodNamed Bd.named Bd.method).1
  have X0 : Stand p l e ({ frames := 0, cells := 0, slots := 0, locals := 0 } : Room) s m #[(.ref a1), (.int p2)] below meth c s₁ [] 0 0 := Stand.of_body Bd
  have e0 : s₁.heap = h0 := by rw [← hh, Bd.state]; rfl
  have N0 := Fr.nil n0
  have pre0 : ∀ t, Steps p.tables e below (s₁.setTop (mkF m 0 #[.val (.ref a1), .val (.int p2)] [])) t → Steps p.tables e below (s₁.setTop (entryFrame m #[(.ref a1), (.int p2)] 2)) t := fun t k => castTop (ef_4 m a1 p2) k
  obtain ⟨T1, X1, e1, st1⟩ := getF X0 hx hZ hown (host := "") (Or.inl (hw _ (List.mem_of_getElem? (i := 14) rfl))) Via.refl e0 F_a1_flags (g := (mkF m 1 #[.val (.ref a1), .val (.int p2)] [(.ref a1)])) rfl rfl (hb hby d4_1)
  have pre2 : ∀ t, Steps p.tables e below (T1.setTop (mkF m 6 #[.val (.ref a1), .val (.int p2)] [(.int (w1 &&& p2))])) t → Steps p.tables e below (s₁.setTop (entryFrame m #[(.ref a1), (.int p2)] 2)) t := fun t k => pre0 t (by
    show Steps p.tables e below (s₁.setTop (mkF m 0 #[.val (.ref a1), .val (.int p2)] [])) _
    refine XS.aloadN X0.here hx rfl (hb hby d4_0) rfl rfl ?_
    show Steps p.tables e below (s₁.setTop (mkF m 1 #[.val (.ref a1), .val (.int p2)] [(.ref a1)])) _
    refine st1 _ ?_
    show Steps p.tables e below (T1.setTop (mkF m 4 #[.val (.ref a1), .val (.int p2)] [(.int w1)])) _
    refine XS.iloadN X1.here hx rfl (hb hby d4_4) rfl ?_
    show Steps p.tables e below (T1.setTop (mkF m 5 #[.val (.ref a1), .val (.int p2)] [(.int p2), (.int w1)])) _
    refine XS.iand X1.here hx rfl (hb hby d4_5) rfl ?_
    exact k)
  by_cases hc3 : (w1 &&& p2) = (0 : Int32)
  · obtain ⟨fs, hr, hrun, hended, hW, hsame⟩ := X1.leave (v := some (.int (0 : Int32))) (fun h => by rw [Bd.returns] at h; cases h)
    refine ⟨_, _, pre2 _ ?_, hrun, hended, _, _, rfl, ?_, ⟨_, rfl⟩, hW, hsame.mono (by decide) (by decide)⟩
    · show Steps p.tables e below (T1.setTop (mkF m 6 #[.val (.ref a1), .val (.int p2)] [(.int (w1 &&& p2))])) _
      refine XS.ifYes X1.here hx rfl (pc0 := 6) (pc' := 13) rfl (hb hby d4_6) rfl ((if0 _ _).trans (teq hc3).1) (by decide) (by decide) ?_
      show Steps p.tables e below (T1.setTop (mkF m 13 #[.val (.ref a1), .val (.int p2)] [])) _
      refine XS.iconst X1.here hx rfl (hb hby d4_13) ?_
      show Steps p.tables e below (T1.setTop (mkF m 14 #[.val (.ref a1), .val (.int p2)] [(.int (0 : Int32))])) _
      exact retN X1 hx (t := .boolean) Bd.returns (by simp) (hb hby d4_14) hr
    · show Q4 Z a1 p2 w1 h0 n0 _ T1.heap _
      rw [e1]
      exact ⟨by rw [show (f4 p2 w1) = (0 : Int32) from by first | (rw [f4, if_pos hc3]; done) | (simp only [f4, if_pos hc3]; done) | rfl], N0, rfl⟩
  · obtain ⟨fs, hr, hrun, hended, hW, hsame⟩ := X1.leave (v := some (.int (1 : Int32))) (fun h => by rw [Bd.returns] at h; cases h)
    refine ⟨_, _, pre2 _ ?_, hrun, hended, _, _, rfl, ?_, ⟨_, rfl⟩, hW, hsame.mono (by decide) (by decide)⟩
    · show Steps p.tables e below (T1.setTop (mkF m 6 #[.val (.ref a1), .val (.int p2)] [(.int (w1 &&& p2))])) _
      refine XS.ifNo X1.here hx rfl (hb hby d4_6) rfl ((if0 _ _).trans (feq hc3).1) ?_
      show Steps p.tables e below (T1.setTop (mkF m 9 #[.val (.ref a1), .val (.int p2)] [])) _
      refine XS.iconst X1.here hx rfl (hb hby d4_9) ?_
      show Steps p.tables e below (T1.setTop (mkF m 10 #[.val (.ref a1), .val (.int p2)] [(.int (1 : Int32))])) _
      refine XS.goto X1.here hx rfl (pc0 := 10) (pc' := 14) rfl (hb hby d4_10) (by decide) (by decide) ?_
      show Steps p.tables e below (T1.setTop (mkF m 14 #[.val (.ref a1), .val (.int p2)] [(.int (1 : Int32))])) _
      exact retN X1 hx (t := .boolean) Bd.returns (by simp) (hb hby d4_14) hr
    · show Q4 Z a1 p2 w1 h0 n0 _ T1.heap _
      rw [e1]
      exact ⟨by rw [show (f4 p2 w1) = (1 : Int32) from by first | (rw [f4, if_neg hc3]; done) | (simp only [f4, if_neg hc3]; done) | rfl], N0, rfl⟩
theorem pd_1 : parseMethodDescriptor "(IIIII)V" = some ⟨[.int, .int, .int, .int, .int], none⟩ := by decide +kernel
theorem pd_2 : parseMethodDescriptor "(I)Z" = some ⟨[.int], some .boolean⟩ := by decide +kernel
theorem pn_2 : plainName "com/example/waymark/waymark/MessageHeaderLayoutHasPinLaw" = true := by first | (simp [plainName, overriddenIn]; done) | decide +kernel
def m0_5_0 (p1 : Int32) (p4 : Int32) : Int32 := (if (((p1.toUInt32 >>> ((p4 &&& (31 : Int32)) &&& 31).toUInt32).toInt32) &&& (1 : Int32)) = (0 : Int32) then (0 : Int32) else (1 : Int32))
def m0_10_0 (p1 : Int32) (p4 : Int32) : Int32 := (if (f4 ((1 : Int32) <<< ((p4 &&& (31 : Int32)) &&& 31)) p1) = (m0_5_0 p1 p4) then (1 : Int32) else (0 : Int32))
def m0_16_0 (p1 : Int32) (p2 : Int32) (p3 : Int32) : Int32 := (if (f4 p2 p1) = (0 : Int32) then (if (f4 p3 p1) = (0 : Int32) then (0 : Int32) else (1 : Int32)) else (1 : Int32))
def m0_20_0 (p1 : Int32) (p2 : Int32) (p3 : Int32) : Int32 := (if (f4 (p2 ||| p3) p1) = (m0_16_0 p1 p2 p3) then (1 : Int32) else (0 : Int32))
def m0_24_0 (p1 : Int32) : Int32 := (if (f4 (0 : Int32) p1) = (0 : Int32) then (1 : Int32) else (0 : Int32))
def m0_28_0 (p1 : Int32) : Int32 := (if p1 = (0 : Int32) then (0 : Int32) else (1 : Int32))
def m0_30_0 (p1 : Int32) : Int32 := (if (f4 (-1 : Int32) p1) = (m0_28_0 p1) then (1 : Int32) else (0 : Int32))
def m0_34_0 (p1 : Int32) (p2 : Int32) : Int32 := (if (f4 p2 p1) = (f4 (p2 &&& p1) p1) then (1 : Int32) else (0 : Int32))
def f0 (p1 : Int32) (p2 : Int32) (p3 : Int32) (p4 : Int32) : Int32 := if (m0_10_0 p1 p4) = (0 : Int32) then (0 : Int32) else if (m0_20_0 p1 p2 p3) = (0 : Int32) then (0 : Int32) else if (m0_24_0 p1) = (0 : Int32) then (0 : Int32) else if (m0_30_0 p1) = (0 : Int32) then (0 : Int32) else if (m0_34_0 p1 p2) = (0 : Int32) then (0 : Int32) else (1 : Int32)
theorem ef_0 (m : MethodId) (x0 : Int32) (x1 : Int32) (x2 : Int32) (x3 : Int32) (x4 : Int32) (x5 : Int32) : entryFrame m #[(.int x0), (.int x1), (.int x2), (.int x3), (.int x4), (.int x5)] maxLocals = mkF m 0 #[.val (.int x0), .val (.int x1), .val (.int x2), .val (.int x3), .val (.int x4), .val (.int x5), .unset, .unset, .unset, .unset, .unset, .unset, .unset, .unset, .unset, .unset] [] := by first | (simp [entryFrame, mkF, argsToLocals, Value.category, maxLocals]; done) | rfl
def Q0 (Z : State) (p1 : Int32) (p2 : Int32) (p3 : Int32) (p4 : Int32) (p5 : Int32) (p6 : Int32) (h0 : Heap) (n0 : Nat) (v : Option Value) (h : Heap) (L : List Loc) : Prop := v = some (.int (f0 p1 p2 p3 p4)) ∧ Fr n0 L
set_option maxRecDepth 65536 in
set_option maxHeartbeats 40000000 in
theorem rm0 (l : Launch) (Z : State) (a0 : Array Value) (hw : ∀ d ∈ tables_1, d.before a0 Z = true) (ws : List Jvm.Cond) (p1 : Int32) (p2 : Int32) (p3 : Int32) (p4 : Int32) (p5 : Int32) (p6 : Int32) (h0 : Heap) (n0 : Nat) (Z0 : n0 ≤ h0.size) :
    MetFree l x (head1 (Jvm.Cond.code x code maxLocals ret :: ws) room_1) (fun a U => a = #[(.int p1), (.int p2), (.int p3), (.int p4), (.int p5), (.int p6)] ∧ Z.Warmed39 U.vm ∧ U.heap = h0) (fun _ _ _ _ _ => True) (fun _ U o U' => ∃ v L, o = .returned v ∧ Q0 Z p1 p2 p3 p4 p5 p6 h0 n0 v U'.heap L ∧ FrameEnd U o U' L room_1.cells room_1.slots) := by
  refine MetFree.of_bodySF (plainFor_of_name pn_2) hisR ?_
  intro p e s m args below meth c s₁ Bd hml0 hP hK
  obtain ⟨rfl, hZ, hh⟩ := hP
  have hx := Bd.exec
  have hby := Bd.bytes
  have hml : c.maxLocals = 16 := hml0
  have hown : s.vm.findClass "com/example/waymark/waymark/MessageHeaderLayoutHasPinLaw" = some m.cls := findClass_of_methodNamed Bd.named
  have hnm := (name_of_methodNamed Bd.named Bd.method).1
  have X0 : Stand p l e room_1 s m #[(.int p1), (.int p2), (.int p3), (.int p4), (.int p5), (.int p6)] below meth c s₁ [] 0 0 := Stand.of_body Bd
  have e0 : s₁.heap = h0 := by rw [← hh, Bd.state]; rfl
  have N0 := Fr.nil n0
  have pre0 : ∀ t, Steps p.tables e below (s₁.setTop (mkF m 0 #[.val (.int p1), .val (.int p2), .val (.int p3), .val (.int p4), .val (.int p5), .val (.int p6), .unset, .unset, .unset, .unset, .unset, .unset, .unset, .unset, .unset, .unset] [])) t → Steps p.tables e below (s₁.setTop (entryFrame m #[(.int p1), (.int p2), (.int p3), (.int p4), (.int p5), (.int p6)] maxLocals)) t := fun t k => castTop (ef_0 m p1 p2 p3 p4 p5 p6) k
  obtain ⟨T1, h1, X1, e1, E1, A1, D1, -, st1⟩ := newO X0 hx hZ hown (hw _ (List.mem_of_getElem? (i := 0) rfl)) (hw _ (List.mem_of_getElem? (i := 1) rfl)) (hw _ (List.mem_of_getElem? (i := 2) rfl)) e0 (g := (mkF m 0 #[.val (.int p1), .val (.int p2), .val (.int p3), .val (.int p4), .val (.int p5), .val (.int p6), .unset, .unset, .unset, .unset, .unset, .unset, .unset, .unset, .unset, .unset] [])) rfl (hb hby at_0) (by decide) (by decide)
  obtain ⟨b1, g1⟩ : ∃ z, z = h0.size := ⟨_, rfl⟩
  rw [← g1] at A1 D1 st1
  have g_b1 : n0 ≤ b1 := Nat.le_trans Z0 (Nat.le_of_eq g1.symm)
  have sz_b1 : h0.size ≤ b1 := Nat.le_trans (Keep.refl h0 []).1 (Nat.le_of_eq g1.symm)
  have K1 : Keep h0 h1 [] := (Keep.refl h0 []).ext E1
  have F_b1_flags : Fld Z h1 b1 "com/example/waymark/waymark/MessageHeaderLayout" "flags" "I" (.int (0 : Int32)) := D1 (Or.inr (hw _ (List.mem_of_getElem? (i := 15) rfl))) (ty := .int) (by decide)
  have F_b1_addressLength : Fld Z h1 b1 "com/example/waymark/waymark/MessageHeaderLayout" "addressLength" "I" (.int (0 : Int32)) := D1 (Or.inr (hw _ (List.mem_of_getElem? (i := 17) rfl))) (ty := .int) (by decide)
  have F_b1_hopLimit : Fld Z h1 b1 "com/example/waymark/waymark/MessageHeaderLayout" "hopLimit" "I" (.int (0 : Int32)) := D1 (Or.inr (hw _ (List.mem_of_getElem? (i := 19) rfl))) (ty := .int) (by decide)
  have F_b1_hopCount : Fld Z h1 b1 "com/example/waymark/waymark/MessageHeaderLayout" "hopCount" "I" (.int (0 : Int32)) := D1 (Or.inr (hw _ (List.mem_of_getElem? (i := 21) rfl))) (ty := .int) (by decide)
  have F_b1_length : Fld Z h1 b1 "com/example/waymark/waymark/MessageHeaderLayout" "length" "I" (.int (0 : Int32)) := D1 (Or.inr (hw _ (List.mem_of_getElem? (i := 23) rfl))) (ty := .int) (by decide)
  obtain ⟨_, _, ⟨T2, L2, k2, n2⟩, -, X2, ⟨Lc2, hQ2, l2, y2, z2⟩, st2⟩ := X1.specialBack hx (y := (⟨"com/example/waymark/waymark/MessageHeaderLayout", "<init>", "(IIIII)V"⟩ : MethodName)) rfl hown (mvT hZ (hw _ (List.mem_of_getElem? (i := 3) rfl))) (mvT hZ (hw _ (List.mem_of_getElem? (i := 4) rfl))) (mvT hZ (hw _ (List.mem_of_getElem? (i := 5) rfl))) (by decide) (backOf (W := 1) (rm1 l Z a0 hw [] b1 p1 p5 p6 (p5 ^^^ p6) (p6 - p5) h1 n0 (Nat.le_trans Z0 K1.1) A1 g_b1 F_b1_flags F_b1_addressLength F_b1_hopLimit F_b1_hopCount F_b1_length) hZ (hw _ (List.mem_of_getElem? (i := 5) rfl)) (hw _ (List.mem_of_getElem? (i := 2) rfl)) (by decide) (by decide)) (g := (mkF m 19 #[.val (.int p1), .val (.int p2), .val (.int p3), .val (.int p4), .val (.int p5), .val (.int p6), .unset, .unset, .unset, .unset, .unset, .unset, .unset, .unset, .unset, .unset] [(.int (p6 - p5)), (.int (p5 ^^^ p6)), (.int p6), (.int p5), (.int p1), (.ref b1), (.ref b1)])) rfl (by rw [hml]; rfl) (Steps.refl _) (a := b1) (argsL := [(.int p1), (.int p5), (.int p6), (.int (p5 ^^^ p6)), (.int (p6 - p5))]) (rest := [(.ref b1)]) (lenOf pd_1 rfl) rfl (by show 2 * 0 + _ ≤ _; exact Nat.le_of_eq rfl) (hb hby at_19) (fun _ _ => ⟨rfl, e1, (by decide : 1 + 0 ≤ _), (by decide : 5 + 0 ≤ _)⟩)
  dsimp only [Pt.U, Pt.locs, Pt.cells, Pt.slots] at X2 l2 y2 z2 st2 hQ2
  subst l2 y2 z2
  obtain ⟨rfl, N2q, K2, P2_0, P2_1, P2_2, P2_3, P2_4⟩ := hQ2
  have K3 : Keep h0 T2.heap [] := K1.trans K2 (allS (Or.inr sz_b1) all0)
  have N2 := Fr.app N0 N2q
  have pre4 : ∀ t, Steps p.tables e below (T2.setTop (mkF m 40 #[.val (.int p1), .val (.int p2), .val (.int p3), .val (.int p4), .val (.int p5), .val (.int p6), .val (.ref b1), .val (.int ((1 : Int32) <<< ((p4 &&& (31 : Int32)) &&& 31))), .unset, .unset, .unset, .unset, .unset, .unset, .unset, .unset] [(.int (((p1.toUInt32 >>> ((p4 &&& (31 : Int32)) &&& 31).toUInt32).toInt32) &&& (1 : Int32)))])) t → Steps p.tables e below (s₁.setTop (entryFrame m #[(.int p1), (.int p2), (.int p3), (.int p4), (.int p5), (.int p6)] maxLocals)) t := fun t k => pre0 t (by
    show Steps p.tables e below (s₁.setTop (mkF m 0 #[.val (.int p1), .val (.int p2), .val (.int p3), .val (.int p4), .val (.int p5), .val (.int p6), .unset, .unset, .unset, .unset, .unset, .unset, .unset, .unset, .unset, .unset] [])) _
    refine st1 _ ?_
    show Steps p.tables e below (T1.setTop (mkF m 3 #[.val (.int p1), .val (.int p2), .val (.int p3), .val (.int p4), .val (.int p5), .val (.int p6), .unset, .unset, .unset, .unset, .unset, .unset, .unset, .unset, .unset, .unset] [(.ref b1)])) _
    refine XS.dup X1.here hx rfl (hb hby at_3) rfl rfl ?_
    show Steps p.tables e below (T1.setTop (mkF m 4 #[.val (.int p1), .val (.int p2), .val (.int p3), .val (.int p4), .val (.int p5), .val (.int p6), .unset, .unset, .unset, .unset, .unset, .unset, .unset, .unset, .unset, .unset] [(.ref b1), (.ref b1)])) _
    refine XS.iloadN X1.here hx rfl (hb hby at_4) rfl ?_
    show Steps p.tables e below (T1.setTop (mkF m 5 #[.val (.int p1), .val (.int p2), .val (.int p3), .val (.int p4), .val (.int p5), .val (.int p6), .unset, .unset, .unset, .unset, .unset, .unset, .unset, .unset, .unset, .unset] [(.int p1), (.ref b1), (.ref b1)])) _
    refine XS.iload X1.here hx rfl (hb hby at_5) rfl ?_
    show Steps p.tables e below (T1.setTop (mkF m 7 #[.val (.int p1), .val (.int p2), .val (.int p3), .val (.int p4), .val (.int p5), .val (.int p6), .unset, .unset, .unset, .unset, .unset, .unset, .unset, .unset, .unset, .unset] [(.int p5), (.int p1), (.ref b1), (.ref b1)])) _
    refine XS.iload X1.here hx rfl (hb hby at_7) rfl ?_
    show Steps p.tables e below (T1.setTop (mkF m 9 #[.val (.int p1), .val (.int p2), .val (.int p3), .val (.int p4), .val (.int p5), .val (.int p6), .unset, .unset, .unset, .unset, .unset, .unset, .unset, .unset, .unset, .unset] [(.int p6), (.int p5), (.int p1), (.ref b1), (.ref b1)])) _
    refine XS.iload X1.here hx rfl (hb hby at_9) rfl ?_
    show Steps p.tables e below (T1.setTop (mkF m 11 #[.val (.int p1), .val (.int p2), .val (.int p3), .val (.int p4), .val (.int p5), .val (.int p6), .unset, .unset, .unset, .unset, .unset, .unset, .unset, .unset, .unset, .unset] [(.int p5), (.int p6), (.int p5), (.int p1), (.ref b1), (.ref b1)])) _
    refine XS.iload X1.here hx rfl (hb hby at_11) rfl ?_
    show Steps p.tables e below (T1.setTop (mkF m 13 #[.val (.int p1), .val (.int p2), .val (.int p3), .val (.int p4), .val (.int p5), .val (.int p6), .unset, .unset, .unset, .unset, .unset, .unset, .unset, .unset, .unset, .unset] [(.int p6), (.int p5), (.int p6), (.int p5), (.int p1), (.ref b1), (.ref b1)])) _
    refine XS.ixor X1.here hx rfl (hb hby at_13) rfl ?_
    show Steps p.tables e below (T1.setTop (mkF m 14 #[.val (.int p1), .val (.int p2), .val (.int p3), .val (.int p4), .val (.int p5), .val (.int p6), .unset, .unset, .unset, .unset, .unset, .unset, .unset, .unset, .unset, .unset] [(.int (p5 ^^^ p6)), (.int p6), (.int p5), (.int p1), (.ref b1), (.ref b1)])) _
    refine XS.iload X1.here hx rfl (hb hby at_14) rfl ?_
    show Steps p.tables e below (T1.setTop (mkF m 16 #[.val (.int p1), .val (.int p2), .val (.int p3), .val (.int p4), .val (.int p5), .val (.int p6), .unset, .unset, .unset, .unset, .unset, .unset, .unset, .unset, .unset, .unset] [(.int p6), (.int (p5 ^^^ p6)), (.int p6), (.int p5), (.int p1), (.ref b1), (.ref b1)])) _
    refine XS.iload X1.here hx rfl (hb hby at_16) rfl ?_
    show Steps p.tables e below (T1.setTop (mkF m 18 #[.val (.int p1), .val (.int p2), .val (.int p3), .val (.int p4), .val (.int p5), .val (.int p6), .unset, .unset, .unset, .unset, .unset, .unset, .unset, .unset, .unset, .unset] [(.int p5), (.int p6), (.int (p5 ^^^ p6)), (.int p6), (.int p5), (.int p1), (.ref b1), (.ref b1)])) _
    refine XS.isub X1.here hx rfl (hb hby at_18) rfl ?_
    show Steps p.tables e below (T1.setTop (mkF m 19 #[.val (.int p1), .val (.int p2), .val (.int p3), .val (.int p4), .val (.int p5), .val (.int p6), .unset, .unset, .unset, .unset, .unset, .unset, .unset, .unset, .unset, .unset] [(.int (p6 - p5)), (.int (p5 ^^^ p6)), (.int p6), (.int p5), (.int p1), (.ref b1), (.ref b1)])) _
    refine st2.trans ?_
    show Steps p.tables e below (T2.setTop (mkF m 22 #[.val (.int p1), .val (.int p2), .val (.int p3), .val (.int p4), .val (.int p5), .val (.int p6), .unset, .unset, .unset, .unset, .unset, .unset, .unset, .unset, .unset, .unset] [(.ref b1)])) _
    refine XS.astore X2.here hx rfl (hb hby at_22) rfl rfl (l' := #[.val (.int p1), .val (.int p2), .val (.int p3), .val (.int p4), .val (.int p5), .val (.int p6), .val (.ref b1), .unset, .unset, .unset, .unset, .unset, .unset, .unset, .unset, .unset]) rfl ?_
    show Steps p.tables e below (T2.setTop (mkF m 24 #[.val (.int p1), .val (.int p2), .val (.int p3), .val (.int p4), .val (.int p5), .val (.int p6), .val (.ref b1), .unset, .unset, .unset, .unset, .unset, .unset, .unset, .unset, .unset] [])) _
    refine XS.iconst X2.here hx rfl (hb hby at_24) ?_
    show Steps p.tables e below (T2.setTop (mkF m 25 #[.val (.int p1), .val (.int p2), .val (.int p3), .val (.int p4), .val (.int p5), .val (.int p6), .val (.ref b1), .unset, .unset, .unset, .unset, .unset, .unset, .unset, .unset, .unset] [(.int (1 : Int32))])) _
    refine XS.iloadN X2.here hx rfl (hb hby at_25) rfl ?_
    show Steps p.tables e below (T2.setTop (mkF m 26 #[.val (.int p1), .val (.int p2), .val (.int p3), .val (.int p4), .val (.int p5), .val (.int p6), .val (.ref b1), .unset, .unset, .unset, .unset, .unset, .unset, .unset, .unset, .unset] [(.int p4), (.int (1 : Int32))])) _
    refine XS.bipush X2.here hx rfl (hb hby at_26) ?_
    show Steps p.tables e below (T2.setTop (mkF m 28 #[.val (.int p1), .val (.int p2), .val (.int p3), .val (.int p4), .val (.int p5), .val (.int p6), .val (.ref b1), .unset, .unset, .unset, .unset, .unset, .unset, .unset, .unset, .unset] [(.int (31 : Int32)), (.int p4), (.int (1 : Int32))])) _
    refine XS.iand X2.here hx rfl (hb hby at_28) rfl ?_
    show Steps p.tables e below (T2.setTop (mkF m 29 #[.val (.int p1), .val (.int p2), .val (.int p3), .val (.int p4), .val (.int p5), .val (.int p6), .val (.ref b1), .unset, .unset, .unset, .unset, .unset, .unset, .unset, .unset, .unset] [(.int (p4 &&& (31 : Int32))), (.int (1 : Int32))])) _
    refine XS.ishl X2.here hx rfl (hb hby at_29) rfl ?_
    show Steps p.tables e below (T2.setTop (mkF m 30 #[.val (.int p1), .val (.int p2), .val (.int p3), .val (.int p4), .val (.int p5), .val (.int p6), .val (.ref b1), .unset, .unset, .unset, .unset, .unset, .unset, .unset, .unset, .unset] [(.int ((1 : Int32) <<< ((p4 &&& (31 : Int32)) &&& 31)))])) _
    refine XS.istore X2.here hx rfl (hb hby at_30) rfl (l' := #[.val (.int p1), .val (.int p2), .val (.int p3), .val (.int p4), .val (.int p5), .val (.int p6), .val (.ref b1), .val (.int ((1 : Int32) <<< ((p4 &&& (31 : Int32)) &&& 31))), .unset, .unset, .unset, .unset, .unset, .unset, .unset, .unset]) rfl ?_
    show Steps p.tables e below (T2.setTop (mkF m 32 #[.val (.int p1), .val (.int p2), .val (.int p3), .val (.int p4), .val (.int p5), .val (.int p6), .val (.ref b1), .val (.int ((1 : Int32) <<< ((p4 &&& (31 : Int32)) &&& 31))), .unset, .unset, .unset, .unset, .unset, .unset, .unset, .unset] [])) _
    refine XS.iloadN X2.here hx rfl (hb hby at_32) rfl ?_
    show Steps p.tables e below (T2.setTop (mkF m 33 #[.val (.int p1), .val (.int p2), .val (.int p3), .val (.int p4), .val (.int p5), .val (.int p6), .val (.ref b1), .val (.int ((1 : Int32) <<< ((p4 &&& (31 : Int32)) &&& 31))), .unset, .unset, .unset, .unset, .unset, .unset, .unset, .unset] [(.int p1)])) _
    refine XS.iloadN X2.here hx rfl (hb hby at_33) rfl ?_
    show Steps p.tables e below (T2.setTop (mkF m 34 #[.val (.int p1), .val (.int p2), .val (.int p3), .val (.int p4), .val (.int p5), .val (.int p6), .val (.ref b1), .val (.int ((1 : Int32) <<< ((p4 &&& (31 : Int32)) &&& 31))), .unset, .unset, .unset, .unset, .unset, .unset, .unset, .unset] [(.int p4), (.int p1)])) _
    refine XS.bipush X2.here hx rfl (hb hby at_34) ?_
    show Steps p.tables e below (T2.setTop (mkF m 36 #[.val (.int p1), .val (.int p2), .val (.int p3), .val (.int p4), .val (.int p5), .val (.int p6), .val (.ref b1), .val (.int ((1 : Int32) <<< ((p4 &&& (31 : Int32)) &&& 31))), .unset, .unset, .unset, .unset, .unset, .unset, .unset, .unset] [(.int (31 : Int32)), (.int p4), (.int p1)])) _
    refine XS.iand X2.here hx rfl (hb hby at_36) rfl ?_
    show Steps p.tables e below (T2.setTop (mkF m 37 #[.val (.int p1), .val (.int p2), .val (.int p3), .val (.int p4), .val (.int p5), .val (.int p6), .val (.ref b1), .val (.int ((1 : Int32) <<< ((p4 &&& (31 : Int32)) &&& 31))), .unset, .unset, .unset, .unset, .unset, .unset, .unset, .unset] [(.int (p4 &&& (31 : Int32))), (.int p1)])) _
    refine XS.iushr X2.here hx rfl (hb hby at_37) rfl ?_
    show Steps p.tables e below (T2.setTop (mkF m 38 #[.val (.int p1), .val (.int p2), .val (.int p3), .val (.int p4), .val (.int p5), .val (.int p6), .val (.ref b1), .val (.int ((1 : Int32) <<< ((p4 &&& (31 : Int32)) &&& 31))), .unset, .unset, .unset, .unset, .unset, .unset, .unset, .unset] [(.int ((p1.toUInt32 >>> ((p4 &&& (31 : Int32)) &&& 31).toUInt32).toInt32))])) _
    refine XS.iconst X2.here hx rfl (hb hby at_38) ?_
    show Steps p.tables e below (T2.setTop (mkF m 39 #[.val (.int p1), .val (.int p2), .val (.int p3), .val (.int p4), .val (.int p5), .val (.int p6), .val (.ref b1), .val (.int ((1 : Int32) <<< ((p4 &&& (31 : Int32)) &&& 31))), .unset, .unset, .unset, .unset, .unset, .unset, .unset, .unset] [(.int (1 : Int32)), (.int ((p1.toUInt32 >>> ((p4 &&& (31 : Int32)) &&& 31).toUInt32).toInt32))])) _
    refine XS.iand X2.here hx rfl (hb hby at_39) rfl ?_
    exact k)
  have pre5 : ∀ t, Steps p.tables e below (T2.setTop (mkF m 48 #[.val (.int p1), .val (.int p2), .val (.int p3), .val (.int p4), .val (.int p5), .val (.int p6), .val (.ref b1), .val (.int ((1 : Int32) <<< ((p4 &&& (31 : Int32)) &&& 31))), .unset, .unset, .unset, .unset, .unset, .unset, .unset, .unset] [(.int (m0_5_0 p1 p4))])) t → Steps p.tables e below (s₁.setTop (entryFrame m #[(.int p1), (.int p2), (.int p3), (.int p4), (.int p5), (.int p6)] maxLocals)) t := by
    intro t k
    by_cases hc6 : (((p1.toUInt32 >>> ((p4 &&& (31 : Int32)) &&& 31).toUInt32).toInt32) &&& (1 : Int32)) = (0 : Int32)
    · rw [show (m0_5_0 p1 p4) = (0 : Int32) from by first | (rw [m0_5_0, if_pos hc6]; done) | (simp only [m0_5_0, if_pos hc6]; done) | rfl] at k
      refine pre4 t ?_
      show Steps p.tables e below (T2.setTop (mkF m 40 #[.val (.int p1), .val (.int p2), .val (.int p3), .val (.int p4), .val (.int p5), .val (.int p6), .val (.ref b1), .val (.int ((1 : Int32) <<< ((p4 &&& (31 : Int32)) &&& 31))), .unset, .unset, .unset, .unset, .unset, .unset, .unset, .unset] [(.int (((p1.toUInt32 >>> ((p4 &&& (31 : Int32)) &&& 31).toUInt32).toInt32) &&& (1 : Int32)))])) _
      refine XS.ifYes X2.here hx rfl (pc0 := 40) (pc' := 47) rfl (hb hby at_40) rfl ((if0 _ _).trans (teq hc6).1) (by decide) (by decide) ?_
      show Steps p.tables e below (T2.setTop (mkF m 47 #[.val (.int p1), .val (.int p2), .val (.int p3), .val (.int p4), .val (.int p5), .val (.int p6), .val (.ref b1), .val (.int ((1 : Int32) <<< ((p4 &&& (31 : Int32)) &&& 31))), .unset, .unset, .unset, .unset, .unset, .unset, .unset, .unset] [])) _
      refine XS.iconst X2.here hx rfl (hb hby at_47) ?_
      exact k
    · rw [show (m0_5_0 p1 p4) = (1 : Int32) from by first | (rw [m0_5_0, if_neg hc6]; done) | (simp only [m0_5_0, if_neg hc6]; done) | rfl] at k
      refine pre4 t ?_
      show Steps p.tables e below (T2.setTop (mkF m 40 #[.val (.int p1), .val (.int p2), .val (.int p3), .val (.int p4), .val (.int p5), .val (.int p6), .val (.ref b1), .val (.int ((1 : Int32) <<< ((p4 &&& (31 : Int32)) &&& 31))), .unset, .unset, .unset, .unset, .unset, .unset, .unset, .unset] [(.int (((p1.toUInt32 >>> ((p4 &&& (31 : Int32)) &&& 31).toUInt32).toInt32) &&& (1 : Int32)))])) _
      refine XS.ifNo X2.here hx rfl (hb hby at_40) rfl ((if0 _ _).trans (feq hc6).1) ?_
      show Steps p.tables e below (T2.setTop (mkF m 43 #[.val (.int p1), .val (.int p2), .val (.int p3), .val (.int p4), .val (.int p5), .val (.int p6), .val (.ref b1), .val (.int ((1 : Int32) <<< ((p4 &&& (31 : Int32)) &&& 31))), .unset, .unset, .unset, .unset, .unset, .unset, .unset, .unset] [])) _
      refine XS.iconst X2.here hx rfl (hb hby at_43) ?_
      show Steps p.tables e below (T2.setTop (mkF m 44 #[.val (.int p1), .val (.int p2), .val (.int p3), .val (.int p4), .val (.int p5), .val (.int p6), .val (.ref b1), .val (.int ((1 : Int32) <<< ((p4 &&& (31 : Int32)) &&& 31))), .unset, .unset, .unset, .unset, .unset, .unset, .unset, .unset] [(.int (1 : Int32))])) _
      refine XS.goto X2.here hx rfl (pc0 := 44) (pc' := 48) rfl (hb hby at_44) (by decide) (by decide) ?_
      exact k
  have F8 := (A1.keep K2)
  obtain ⟨cq7, kq7, q7a, q7b, q7c⟩ := isOf hZ rfl F8
  obtain ⟨_, _, ⟨T7, L7, k7, n7⟩, -, X7, ⟨Lc7, hQ7, l7, y7, z7⟩, st7⟩ := X2.virtualBack hx (y := (⟨"com/example/waymark/waymark/MessageHeaderLayout", "has", "(I)Z"⟩ : MethodName)) (z := (⟨"com/example/waymark/waymark/MessageHeaderLayout", "has", "(I)Z"⟩ : MethodName)) hown (mvT hZ (hw _ (List.mem_of_getElem? (i := 24) rfl))) (mvT hZ (hw _ (List.mem_of_getElem? (i := 25) rfl))) (notFace_of_selects (args := #[]) (mvT hZ (hw _ (List.mem_of_getElem? (i := 27) rfl)))) (mvT hZ (hw _ (List.mem_of_getElem? (i := 27) rfl))) (mvT hZ (hw _ (List.mem_of_getElem? (i := 26) rfl))) (by decide) (backOf (W := 0) (rm4 l Z a0 hw [] b1 ((1 : Int32) <<< ((p4 &&& (31 : Int32)) &&& 31)) p1 (T2.heap) n0 (Nat.le_trans Z0 K3.1) P2_0) hZ (hw _ (List.mem_of_getElem? (i := 28) rfl)) (hw _ (List.mem_of_getElem? (i := 2) rfl)) (by decide) (by decide)) q7a q7c (g := (mkF m 54 #[.val (.int p1), .val (.int p2), .val (.int p3), .val (.int p4), .val (.int p5), .val (.int p6), .val (.ref b1), .val (.int ((1 : Int32) <<< ((p4 &&& (31 : Int32)) &&& 31))), .val (.int (m0_5_0 p1 p4)), .unset, .unset, .unset, .unset, .unset, .unset, .unset] [(.int ((1 : Int32) <<< ((p4 &&& (31 : Int32)) &&& 31))), (.ref b1)])) rfl (by rw [hml]; rfl) (Steps.refl _) (argsL := [(.int ((1 : Int32) <<< ((p4 &&& (31 : Int32)) &&& 31)))]) (rest := []) (lenOf pd_2 rfl) rfl (by show 2 * 0 + _ ≤ _; exact Nat.le_of_eq rfl) (hb hby at_54) (fun _ _ => ⟨rfl, rfl, (by decide : 1 + 0 ≤ _), (by decide : 5 + 0 ≤ _)⟩)
  dsimp only [Pt.U, Pt.locs, Pt.cells, Pt.slots] at X7 l7 y7 z7 st7 hQ7
  subst l7 y7 z7
  obtain ⟨rfl, N7q, e7⟩ := hQ7
  have N7 := Fr.app N2 N7q
  have pre9 : ∀ t, Steps p.tables e below (T7.setTop (mkF m 59 #[.val (.int p1), .val (.int p2), .val (.int p3), .val (.int p4), .val (.int p5), .val (.int p6), .val (.ref b1), .val (.int ((1 : Int32) <<< ((p4 &&& (31 : Int32)) &&& 31))), .val (.int (m0_5_0 p1 p4)), .unset, .unset, .unset, .unset, .unset, .unset, .unset] [(.int (m0_5_0 p1 p4)), (.int (f4 ((1 : Int32) <<< ((p4 &&& (31 : Int32)) &&& 31)) p1))])) t → Steps p.tables e below (s₁.setTop (entryFrame m #[(.int p1), (.int p2), (.int p3), (.int p4), (.int p5), (.int p6)] maxLocals)) t := fun t k => pre5 t (by
    show Steps p.tables e below (T2.setTop (mkF m 48 #[.val (.int p1), .val (.int p2), .val (.int p3), .val (.int p4), .val (.int p5), .val (.int p6), .val (.ref b1), .val (.int ((1 : Int32) <<< ((p4 &&& (31 : Int32)) &&& 31))), .unset, .unset, .unset, .unset, .unset, .unset, .unset, .unset] [(.int (m0_5_0 p1 p4))])) _
    refine XS.istore X2.here hx rfl (hb hby at_48) rfl (l' := #[.val (.int p1), .val (.int p2), .val (.int p3), .val (.int p4), .val (.int p5), .val (.int p6), .val (.ref b1), .val (.int ((1 : Int32) <<< ((p4 &&& (31 : Int32)) &&& 31))), .val (.int (m0_5_0 p1 p4)), .unset, .unset, .unset, .unset, .unset, .unset, .unset]) rfl ?_
    show Steps p.tables e below (T2.setTop (mkF m 50 #[.val (.int p1), .val (.int p2), .val (.int p3), .val (.int p4), .val (.int p5), .val (.int p6), .val (.ref b1), .val (.int ((1 : Int32) <<< ((p4 &&& (31 : Int32)) &&& 31))), .val (.int (m0_5_0 p1 p4)), .unset, .unset, .unset, .unset, .unset, .unset, .unset] [])) _
    refine XS.aload X2.here hx rfl (hb hby at_50) rfl rfl ?_
    show Steps p.tables e below (T2.setTop (mkF m 52 #[.val (.int p1), .val (.int p2), .val (.int p3), .val (.int p4), .val (.int p5), .val (.int p6), .val (.ref b1), .val (.int ((1 : Int32) <<< ((p4 &&& (31 : Int32)) &&& 31))), .val (.int (m0_5_0 p1 p4)), .unset, .unset, .unset, .unset, .unset, .unset, .unset] [(.ref b1)])) _
    refine XS.iload X2.here hx rfl (hb hby at_52) rfl ?_
    show Steps p.tables e below (T2.setTop (mkF m 54 #[.val (.int p1), .val (.int p2), .val (.int p3), .val (.int p4), .val (.int p5), .val (.int p6), .val (.ref b1), .val (.int ((1 : Int32) <<< ((p4 &&& (31 : Int32)) &&& 31))), .val (.int (m0_5_0 p1 p4)), .unset, .unset, .unset, .unset, .unset, .unset, .unset] [(.int ((1 : Int32) <<< ((p4 &&& (31 : Int32)) &&& 31))), (.ref b1)])) _
    refine st7.trans ?_
    show Steps p.tables e below (T7.setTop (mkF m 57 #[.val (.int p1), .val (.int p2), .val (.int p3), .val (.int p4), .val (.int p5), .val (.int p6), .val (.ref b1), .val (.int ((1 : Int32) <<< ((p4 &&& (31 : Int32)) &&& 31))), .val (.int (m0_5_0 p1 p4)), .unset, .unset, .unset, .unset, .unset, .unset, .unset] [(.int (f4 ((1 : Int32) <<< ((p4 &&& (31 : Int32)) &&& 31)) p1))])) _
    refine XS.iload X7.here hx rfl (hb hby at_57) rfl ?_
    exact k)
  have pre10 : ∀ t, Steps p.tables e below (T7.setTop (mkF m 67 #[.val (.int p1), .val (.int p2), .val (.int p3), .val (.int p4), .val (.int p5), .val (.int p6), .val (.ref b1), .val (.int ((1 : Int32) <<< ((p4 &&& (31 : Int32)) &&& 31))), .val (.int (m0_5_0 p1 p4)), .unset, .unset, .unset, .unset, .unset, .unset, .unset] [(.int (m0_10_0 p1 p4))])) t → Steps p.tables e below (s₁.setTop (entryFrame m #[(.int p1), (.int p2), (.int p3), (.int p4), (.int p5), (.int p6)] maxLocals)) t := by
    intro t k
    by_cases hc11 : (f4 ((1 : Int32) <<< ((p4 &&& (31 : Int32)) &&& 31)) p1) = (m0_5_0 p1 p4)
    · rw [show (m0_10_0 p1 p4) = (1 : Int32) from by first | (rw [m0_10_0, if_pos hc11]; done) | (simp only [m0_10_0, if_pos hc11]; done) | rfl] at k
      refine pre9 t ?_
      show Steps p.tables e below (T7.setTop (mkF m 59 #[.val (.int p1), .val (.int p2), .val (.int p3), .val (.int p4), .val (.int p5), .val (.int p6), .val (.ref b1), .val (.int ((1 : Int32) <<< ((p4 &&& (31 : Int32)) &&& 31))), .val (.int (m0_5_0 p1 p4)), .unset, .unset, .unset, .unset, .unset, .unset, .unset] [(.int (m0_5_0 p1 p4)), (.int (f4 ((1 : Int32) <<< ((p4 &&& (31 : Int32)) &&& 31)) p1))])) _
      refine XS.icmpNo X7.here hx rfl (hb hby at_59) rfl (teq hc11).2 ?_
      show Steps p.tables e below (T7.setTop (mkF m 62 #[.val (.int p1), .val (.int p2), .val (.int p3), .val (.int p4), .val (.int p5), .val (.int p6), .val (.ref b1), .val (.int ((1 : Int32) <<< ((p4 &&& (31 : Int32)) &&& 31))), .val (.int (m0_5_0 p1 p4)), .unset, .unset, .unset, .unset, .unset, .unset, .unset] [])) _
      refine XS.iconst X7.here hx rfl (hb hby at_62) ?_
      show Steps p.tables e below (T7.setTop (mkF m 63 #[.val (.int p1), .val (.int p2), .val (.int p3), .val (.int p4), .val (.int p5), .val (.int p6), .val (.ref b1), .val (.int ((1 : Int32) <<< ((p4 &&& (31 : Int32)) &&& 31))), .val (.int (m0_5_0 p1 p4)), .unset, .unset, .unset, .unset, .unset, .unset, .unset] [(.int (1 : Int32))])) _
      refine XS.goto X7.here hx rfl (pc0 := 63) (pc' := 67) rfl (hb hby at_63) (by decide) (by decide) ?_
      exact k
    · rw [show (m0_10_0 p1 p4) = (0 : Int32) from by first | (rw [m0_10_0, if_neg hc11]; done) | (simp only [m0_10_0, if_neg hc11]; done) | rfl] at k
      refine pre9 t ?_
      show Steps p.tables e below (T7.setTop (mkF m 59 #[.val (.int p1), .val (.int p2), .val (.int p3), .val (.int p4), .val (.int p5), .val (.int p6), .val (.ref b1), .val (.int ((1 : Int32) <<< ((p4 &&& (31 : Int32)) &&& 31))), .val (.int (m0_5_0 p1 p4)), .unset, .unset, .unset, .unset, .unset, .unset, .unset] [(.int (m0_5_0 p1 p4)), (.int (f4 ((1 : Int32) <<< ((p4 &&& (31 : Int32)) &&& 31)) p1))])) _
      refine XS.icmpYes X7.here hx rfl (pc0 := 59) (pc' := 66) rfl (hb hby at_59) rfl (feq hc11).2 (by decide) (by decide) ?_
      show Steps p.tables e below (T7.setTop (mkF m 66 #[.val (.int p1), .val (.int p2), .val (.int p3), .val (.int p4), .val (.int p5), .val (.int p6), .val (.ref b1), .val (.int ((1 : Int32) <<< ((p4 &&& (31 : Int32)) &&& 31))), .val (.int (m0_5_0 p1 p4)), .unset, .unset, .unset, .unset, .unset, .unset, .unset] [])) _
      refine XS.iconst X7.here hx rfl (hb hby at_66) ?_
      exact k
  obtain ⟨cq12, kq12, q12a, q12b, q12c⟩ := isOf hZ e7 F8
  obtain ⟨_, _, ⟨T12, L12, k12, n12⟩, -, X12, ⟨Lc12, hQ12, l12, y12, z12⟩, st12⟩ := X7.virtualBack hx (y := (⟨"com/example/waymark/waymark/MessageHeaderLayout", "has", "(I)Z"⟩ : MethodName)) (z := (⟨"com/example/waymark/waymark/MessageHeaderLayout", "has", "(I)Z"⟩ : MethodName)) hown (mvT hZ (hw _ (List.mem_of_getElem? (i := 24) rfl))) (mvT hZ (hw _ (List.mem_of_getElem? (i := 25) rfl))) (notFace_of_selects (args := #[]) (mvT hZ (hw _ (List.mem_of_getElem? (i := 27) rfl)))) (mvT hZ (hw _ (List.mem_of_getElem? (i := 27) rfl))) (mvT hZ (hw _ (List.mem_of_getElem? (i := 26) rfl))) (by decide) (backOf (W := 0) (rm4 l Z a0 hw [] b1 p2 p1 (T2.heap) n0 (Nat.le_trans Z0 K3.1) P2_0) hZ (hw _ (List.mem_of_getElem? (i := 28) rfl)) (hw _ (List.mem_of_getElem? (i := 2) rfl)) (by decide) (by decide)) q12a q12c (g := (mkF m 72 #[.val (.int p1), .val (.int p2), .val (.int p3), .val (.int p4), .val (.int p5), .val (.int p6), .val (.ref b1), .val (.int ((1 : Int32) <<< ((p4 &&& (31 : Int32)) &&& 31))), .val (.int (m0_5_0 p1 p4)), .val (.int (m0_10_0 p1 p4)), .unset, .unset, .unset, .unset, .unset, .unset] [(.int p2), (.ref b1)])) rfl (by rw [hml]; rfl) (Steps.refl _) (argsL := [(.int p2)]) (rest := []) (lenOf pd_2 rfl) rfl (by show 2 * 0 + _ ≤ _; exact Nat.le_of_eq rfl) (hb hby at_72) (fun _ _ => ⟨rfl, e7, (by decide : 1 + 0 ≤ _), (by decide : 5 + 0 ≤ _)⟩)
  dsimp only [Pt.U, Pt.locs, Pt.cells, Pt.slots] at X12 l12 y12 z12 st12 hQ12
  subst l12 y12 z12
  obtain ⟨rfl, N12q, e12⟩ := hQ12
  have N12 := Fr.app N7 N12q
  obtain ⟨cq13, kq13, q13a, q13b, q13c⟩ := isOf hZ e12 F8
  obtain ⟨_, _, ⟨T13, L13, k13, n13⟩, -, X13, ⟨Lc13, hQ13, l13, y13, z13⟩, st13⟩ := X12.virtualBack hx (y := (⟨"com/example/waymark/waymark/MessageHeaderLayout", "has", "(I)Z"⟩ : MethodName)) (z := (⟨"com/example/waymark/waymark/MessageHeaderLayout", "has", "(I)Z"⟩ : MethodName)) hown (mvT hZ (hw _ (List.mem_of_getElem? (i := 24) rfl))) (mvT hZ (hw _ (List.mem_of_getElem? (i := 25) rfl))) (notFace_of_selects (args := #[]) (mvT hZ (hw _ (List.mem_of_getElem? (i := 27) rfl)))) (mvT hZ (hw _ (List.mem_of_getElem? (i := 27) rfl))) (mvT hZ (hw _ (List.mem_of_getElem? (i := 26) rfl))) (by decide) (backOf (W := 0) (rm4 l Z a0 hw [] b1 p3 p1 (T2.heap) n0 (Nat.le_trans Z0 K3.1) P2_0) hZ (hw _ (List.mem_of_getElem? (i := 28) rfl)) (hw _ (List.mem_of_getElem? (i := 2) rfl)) (by decide) (by decide)) q13a q13c (g := (mkF m 80 #[.val (.int p1), .val (.int p2), .val (.int p3), .val (.int p4), .val (.int p5), .val (.int p6), .val (.ref b1), .val (.int ((1 : Int32) <<< ((p4 &&& (31 : Int32)) &&& 31))), .val (.int (m0_5_0 p1 p4)), .val (.int (m0_10_0 p1 p4)), .val (.int (f4 p2 p1)), .unset, .unset, .unset, .unset, .unset] [(.int p3), (.ref b1)])) rfl (by rw [hml]; rfl) (Steps.refl _) (argsL := [(.int p3)]) (rest := []) (lenOf pd_2 rfl) rfl (by show 2 * 0 + _ ≤ _; exact Nat.le_of_eq rfl) (hb hby at_80) (fun _ _ => ⟨rfl, e12, (by decide : 1 + 0 ≤ _), (by decide : 5 + 0 ≤ _)⟩)
  dsimp only [Pt.U, Pt.locs, Pt.cells, Pt.slots] at X13 l13 y13 z13 st13 hQ13
  subst l13 y13 z13
  obtain ⟨rfl, N13q, e13⟩ := hQ13
  have N13 := Fr.app N12 N13q
  obtain ⟨cq14, kq14, q14a, q14b, q14c⟩ := isOf hZ e13 F8
  obtain ⟨_, _, ⟨T14, L14, k14, n14⟩, -, X14, ⟨Lc14, hQ14, l14, y14, z14⟩, st14⟩ := X13.virtualBack hx (y := (⟨"com/example/waymark/waymark/MessageHeaderLayout", "has", "(I)Z"⟩ : MethodName)) (z := (⟨"com/example/waymark/waymark/MessageHeaderLayout", "has", "(I)Z"⟩ : MethodName)) hown (mvT hZ (hw _ (List.mem_of_getElem? (i := 24) rfl))) (mvT hZ (hw _ (List.mem_of_getElem? (i := 25) rfl))) (notFace_of_selects (args := #[]) (mvT hZ (hw _ (List.mem_of_getElem? (i := 27) rfl)))) (mvT hZ (hw _ (List.mem_of_getElem? (i := 27) rfl))) (mvT hZ (hw _ (List.mem_of_getElem? (i := 26) rfl))) (by decide) (backOf (W := 0) (rm4 l Z a0 hw [] b1 (p2 ||| p3) p1 (T2.heap) n0 (Nat.le_trans Z0 K3.1) P2_0) hZ (hw _ (List.mem_of_getElem? (i := 28) rfl)) (hw _ (List.mem_of_getElem? (i := 2) rfl)) (by decide) (by decide)) q14a q14c (g := (mkF m 90 #[.val (.int p1), .val (.int p2), .val (.int p3), .val (.int p4), .val (.int p5), .val (.int p6), .val (.ref b1), .val (.int ((1 : Int32) <<< ((p4 &&& (31 : Int32)) &&& 31))), .val (.int (m0_5_0 p1 p4)), .val (.int (m0_10_0 p1 p4)), .val (.int (f4 p2 p1)), .val (.int (f4 p3 p1)), .unset, .unset, .unset, .unset] [(.int (p2 ||| p3)), (.ref b1)])) rfl (by rw [hml]; rfl) (Steps.refl _) (argsL := [(.int (p2 ||| p3))]) (rest := []) (lenOf pd_2 rfl) rfl (by show 2 * 0 + _ ≤ _; exact Nat.le_of_eq rfl) (hb hby at_90) (fun _ _ => ⟨rfl, e13, (by decide : 1 + 0 ≤ _), (by decide : 5 + 0 ≤ _)⟩)
  dsimp only [Pt.U, Pt.locs, Pt.cells, Pt.slots] at X14 l14 y14 z14 st14 hQ14
  subst l14 y14 z14
  obtain ⟨rfl, N14q, e14⟩ := hQ14
  have N14 := Fr.app N13 N14q
  have pre15 : ∀ t, Steps p.tables e below (T14.setTop (mkF m 95 #[.val (.int p1), .val (.int p2), .val (.int p3), .val (.int p4), .val (.int p5), .val (.int p6), .val (.ref b1), .val (.int ((1 : Int32) <<< ((p4 &&& (31 : Int32)) &&& 31))), .val (.int (m0_5_0 p1 p4)), .val (.int (m0_10_0 p1 p4)), .val (.int (f4 p2 p1)), .val (.int (f4 p3 p1)), .unset, .unset, .unset, .unset] [(.int (f4 p2 p1)), (.int (f4 (p2 ||| p3) p1))])) t → Steps p.tables e below (s₁.setTop (entryFrame m #[(.int p1), (.int p2), (.int p3), (.int p4), (.int p5), (.int p6)] maxLocals)) t := fun t k => pre10 t (by
    show Steps p.tables e below (T7.setTop (mkF m 67 #[.val (.int p1), .val (.int p2), .val (.int p3), .val (.int p4), .val (.int p5), .val (.int p6), .val (.ref b1), .val (.int ((1 : Int32) <<< ((p4 &&& (31 : Int32)) &&& 31))), .val (.int (m0_5_0 p1 p4)), .unset, .unset, .unset, .unset, .unset, .unset, .unset] [(.int (m0_10_0 p1 p4))])) _
    refine XS.istore X7.here hx rfl (hb hby at_67) rfl (l' := #[.val (.int p1), .val (.int p2), .val (.int p3), .val (.int p4), .val (.int p5), .val (.int p6), .val (.ref b1), .val (.int ((1 : Int32) <<< ((p4 &&& (31 : Int32)) &&& 31))), .val (.int (m0_5_0 p1 p4)), .val (.int (m0_10_0 p1 p4)), .unset, .unset, .unset, .unset, .unset, .unset]) rfl ?_
    show Steps p.tables e below (T7.setTop (mkF m 69 #[.val (.int p1), .val (.int p2), .val (.int p3), .val (.int p4), .val (.int p5), .val (.int p6), .val (.ref b1), .val (.int ((1 : Int32) <<< ((p4 &&& (31 : Int32)) &&& 31))), .val (.int (m0_5_0 p1 p4)), .val (.int (m0_10_0 p1 p4)), .unset, .unset, .unset, .unset, .unset, .unset] [])) _
    refine XS.aload X7.here hx rfl (hb hby at_69) rfl rfl ?_
    show Steps p.tables e below (T7.setTop (mkF m 71 #[.val (.int p1), .val (.int p2), .val (.int p3), .val (.int p4), .val (.int p5), .val (.int p6), .val (.ref b1), .val (.int ((1 : Int32) <<< ((p4 &&& (31 : Int32)) &&& 31))), .val (.int (m0_5_0 p1 p4)), .val (.int (m0_10_0 p1 p4)), .unset, .unset, .unset, .unset, .unset, .unset] [(.ref b1)])) _
    refine XS.iloadN X7.here hx rfl (hb hby at_71) rfl ?_
    show Steps p.tables e below (T7.setTop (mkF m 72 #[.val (.int p1), .val (.int p2), .val (.int p3), .val (.int p4), .val (.int p5), .val (.int p6), .val (.ref b1), .val (.int ((1 : Int32) <<< ((p4 &&& (31 : Int32)) &&& 31))), .val (.int (m0_5_0 p1 p4)), .val (.int (m0_10_0 p1 p4)), .unset, .unset, .unset, .unset, .unset, .unset] [(.int p2), (.ref b1)])) _
    refine st12.trans ?_
    show Steps p.tables e below (T12.setTop (mkF m 75 #[.val (.int p1), .val (.int p2), .val (.int p3), .val (.int p4), .val (.int p5), .val (.int p6), .val (.ref b1), .val (.int ((1 : Int32) <<< ((p4 &&& (31 : Int32)) &&& 31))), .val (.int (m0_5_0 p1 p4)), .val (.int (m0_10_0 p1 p4)), .unset, .unset, .unset, .unset, .unset, .unset] [(.int (f4 p2 p1))])) _
    refine XS.istore X12.here hx rfl (hb hby at_75) rfl (l' := #[.val (.int p1), .val (.int p2), .val (.int p3), .val (.int p4), .val (.int p5), .val (.int p6), .val (.ref b1), .val (.int ((1 : Int32) <<< ((p4 &&& (31 : Int32)) &&& 31))), .val (.int (m0_5_0 p1 p4)), .val (.int (m0_10_0 p1 p4)), .val (.int (f4 p2 p1)), .unset, .unset, .unset, .unset, .unset]) rfl ?_
    show Steps p.tables e below (T12.setTop (mkF m 77 #[.val (.int p1), .val (.int p2), .val (.int p3), .val (.int p4), .val (.int p5), .val (.int p6), .val (.ref b1), .val (.int ((1 : Int32) <<< ((p4 &&& (31 : Int32)) &&& 31))), .val (.int (m0_5_0 p1 p4)), .val (.int (m0_10_0 p1 p4)), .val (.int (f4 p2 p1)), .unset, .unset, .unset, .unset, .unset] [])) _
    refine XS.aload X12.here hx rfl (hb hby at_77) rfl rfl ?_
    show Steps p.tables e below (T12.setTop (mkF m 79 #[.val (.int p1), .val (.int p2), .val (.int p3), .val (.int p4), .val (.int p5), .val (.int p6), .val (.ref b1), .val (.int ((1 : Int32) <<< ((p4 &&& (31 : Int32)) &&& 31))), .val (.int (m0_5_0 p1 p4)), .val (.int (m0_10_0 p1 p4)), .val (.int (f4 p2 p1)), .unset, .unset, .unset, .unset, .unset] [(.ref b1)])) _
    refine XS.iloadN X12.here hx rfl (hb hby at_79) rfl ?_
    show Steps p.tables e below (T12.setTop (mkF m 80 #[.val (.int p1), .val (.int p2), .val (.int p3), .val (.int p4), .val (.int p5), .val (.int p6), .val (.ref b1), .val (.int ((1 : Int32) <<< ((p4 &&& (31 : Int32)) &&& 31))), .val (.int (m0_5_0 p1 p4)), .val (.int (m0_10_0 p1 p4)), .val (.int (f4 p2 p1)), .unset, .unset, .unset, .unset, .unset] [(.int p3), (.ref b1)])) _
    refine st13.trans ?_
    show Steps p.tables e below (T13.setTop (mkF m 83 #[.val (.int p1), .val (.int p2), .val (.int p3), .val (.int p4), .val (.int p5), .val (.int p6), .val (.ref b1), .val (.int ((1 : Int32) <<< ((p4 &&& (31 : Int32)) &&& 31))), .val (.int (m0_5_0 p1 p4)), .val (.int (m0_10_0 p1 p4)), .val (.int (f4 p2 p1)), .unset, .unset, .unset, .unset, .unset] [(.int (f4 p3 p1))])) _
    refine XS.istore X13.here hx rfl (hb hby at_83) rfl (l' := #[.val (.int p1), .val (.int p2), .val (.int p3), .val (.int p4), .val (.int p5), .val (.int p6), .val (.ref b1), .val (.int ((1 : Int32) <<< ((p4 &&& (31 : Int32)) &&& 31))), .val (.int (m0_5_0 p1 p4)), .val (.int (m0_10_0 p1 p4)), .val (.int (f4 p2 p1)), .val (.int (f4 p3 p1)), .unset, .unset, .unset, .unset]) rfl ?_
    show Steps p.tables e below (T13.setTop (mkF m 85 #[.val (.int p1), .val (.int p2), .val (.int p3), .val (.int p4), .val (.int p5), .val (.int p6), .val (.ref b1), .val (.int ((1 : Int32) <<< ((p4 &&& (31 : Int32)) &&& 31))), .val (.int (m0_5_0 p1 p4)), .val (.int (m0_10_0 p1 p4)), .val (.int (f4 p2 p1)), .val (.int (f4 p3 p1)), .unset, .unset, .unset, .unset] [])) _
    refine XS.aload X13.here hx rfl (hb hby at_85) rfl rfl ?_
    show Steps p.tables e below (T13.setTop (mkF m 87 #[.val (.int p1), .val (.int p2), .val (.int p3), .val (.int p4), .val (.int p5), .val (.int p6), .val (.ref b1), .val (.int ((1 : Int32) <<< ((p4 &&& (31 : Int32)) &&& 31))), .val (.int (m0_5_0 p1 p4)), .val (.int (m0_10_0 p1 p4)), .val (.int (f4 p2 p1)), .val (.int (f4 p3 p1)), .unset, .unset, .unset, .unset] [(.ref b1)])) _
    refine XS.iloadN X13.here hx rfl (hb hby at_87) rfl ?_
    show Steps p.tables e below (T13.setTop (mkF m 88 #[.val (.int p1), .val (.int p2), .val (.int p3), .val (.int p4), .val (.int p5), .val (.int p6), .val (.ref b1), .val (.int ((1 : Int32) <<< ((p4 &&& (31 : Int32)) &&& 31))), .val (.int (m0_5_0 p1 p4)), .val (.int (m0_10_0 p1 p4)), .val (.int (f4 p2 p1)), .val (.int (f4 p3 p1)), .unset, .unset, .unset, .unset] [(.int p2), (.ref b1)])) _
    refine XS.iloadN X13.here hx rfl (hb hby at_88) rfl ?_
    show Steps p.tables e below (T13.setTop (mkF m 89 #[.val (.int p1), .val (.int p2), .val (.int p3), .val (.int p4), .val (.int p5), .val (.int p6), .val (.ref b1), .val (.int ((1 : Int32) <<< ((p4 &&& (31 : Int32)) &&& 31))), .val (.int (m0_5_0 p1 p4)), .val (.int (m0_10_0 p1 p4)), .val (.int (f4 p2 p1)), .val (.int (f4 p3 p1)), .unset, .unset, .unset, .unset] [(.int p3), (.int p2), (.ref b1)])) _
    refine XS.ior X13.here hx rfl (hb hby at_89) rfl ?_
    show Steps p.tables e below (T13.setTop (mkF m 90 #[.val (.int p1), .val (.int p2), .val (.int p3), .val (.int p4), .val (.int p5), .val (.int p6), .val (.ref b1), .val (.int ((1 : Int32) <<< ((p4 &&& (31 : Int32)) &&& 31))), .val (.int (m0_5_0 p1 p4)), .val (.int (m0_10_0 p1 p4)), .val (.int (f4 p2 p1)), .val (.int (f4 p3 p1)), .unset, .unset, .unset, .unset] [(.int (p2 ||| p3)), (.ref b1)])) _
    refine st14.trans ?_
    show Steps p.tables e below (T14.setTop (mkF m 93 #[.val (.int p1), .val (.int p2), .val (.int p3), .val (.int p4), .val (.int p5), .val (.int p6), .val (.ref b1), .val (.int ((1 : Int32) <<< ((p4 &&& (31 : Int32)) &&& 31))), .val (.int (m0_5_0 p1 p4)), .val (.int (m0_10_0 p1 p4)), .val (.int (f4 p2 p1)), .val (.int (f4 p3 p1)), .unset, .unset, .unset, .unset] [(.int (f4 (p2 ||| p3) p1))])) _
    refine XS.iload X14.here hx rfl (hb hby at_93) rfl ?_
    exact k)
  have pre16 : ∀ t, Steps p.tables e below (T14.setTop (mkF m 108 #[.val (.int p1), .val (.int p2), .val (.int p3), .val (.int p4), .val (.int p5), .val (.int p6), .val (.ref b1), .val (.int ((1 : Int32) <<< ((p4 &&& (31 : Int32)) &&& 31))), .val (.int (m0_5_0 p1 p4)), .val (.int (m0_10_0 p1 p4)), .val (.int (f4 p2 p1)), .val (.int (f4 p3 p1)), .unset, .unset, .unset, .unset] [(.int (m0_16_0 p1 p2 p3)), (.int (f4 (p2 ||| p3) p1))])) t → Steps p.tables e below (s₁.setTop (entryFrame m #[(.int p1), (.int p2), (.int p3), (.int p4), (.int p5), (.int p6)] maxLocals)) t := by
    intro t k
    by_cases hc17 : (f4 p2 p1) = (0 : Int32)
    · have pre18 : ∀ t, Steps p.tables e below (T14.setTop (mkF m 100 #[.val (.int p1), .val (.int p2), .val (.int p3), .val (.int p4), .val (.int p5), .val (.int p6), .val (.ref b1), .val (.int ((1 : Int32) <<< ((p4 &&& (31 : Int32)) &&& 31))), .val (.int (m0_5_0 p1 p4)), .val (.int (m0_10_0 p1 p4)), .val (.int (f4 p2 p1)), .val (.int (f4 p3 p1)), .unset, .unset, .unset, .unset] [(.int (f4 p3 p1)), (.int (f4 (p2 ||| p3) p1))])) t → Steps p.tables e below (s₁.setTop (entryFrame m #[(.int p1), (.int p2), (.int p3), (.int p4), (.int p5), (.int p6)] maxLocals)) t := fun t k => pre15 t (by
        show Steps p.tables e below (T14.setTop (mkF m 95 #[.val (.int p1), .val (.int p2), .val (.int p3), .val (.int p4), .val (.int p5), .val (.int p6), .val (.ref b1), .val (.int ((1 : Int32) <<< ((p4 &&& (31 : Int32)) &&& 31))), .val (.int (m0_5_0 p1 p4)), .val (.int (m0_10_0 p1 p4)), .val (.int (f4 p2 p1)), .val (.int (f4 p3 p1)), .unset, .unset, .unset, .unset] [(.int (f4 p2 p1)), (.int (f4 (p2 ||| p3) p1))])) _
        refine XS.ifNo X14.here hx rfl (hb hby at_95) rfl ((if0 _ _).trans (teq hc17).2) ?_
        show Steps p.tables e below (T14.setTop (mkF m 98 #[.val (.int p1), .val (.int p2), .val (.int p3), .val (.int p4), .val (.int p5), .val (.int p6), .val (.ref b1), .val (.int ((1 : Int32) <<< ((p4 &&& (31 : Int32)) &&& 31))), .val (.int (m0_5_0 p1 p4)), .val (.int (m0_10_0 p1 p4)), .val (.int (f4 p2 p1)), .val (.int (f4 p3 p1)), .unset, .unset, .unset, .unset] [(.int (f4 (p2 ||| p3) p1))])) _
        refine XS.iload X14.here hx rfl (hb hby at_98) rfl ?_
        exact k)
      by_cases hc19 : (f4 p3 p1) = (0 : Int32)
      · rw [show (m0_16_0 p1 p2 p3) = (0 : Int32) from by first | (rw [m0_16_0, if_pos hc17, if_pos hc19]; done) | (simp only [m0_16_0, if_pos hc17, if_pos hc19]; done) | rfl] at k
        refine pre18 t ?_
        show Steps p.tables e below (T14.setTop (mkF m 100 #[.val (.int p1), .val (.int p2), .val (.int p3), .val (.int p4), .val (.int p5), .val (.int p6), .val (.ref b1), .val (.int ((1 : Int32) <<< ((p4 &&& (31 : Int32)) &&& 31))), .val (.int (m0_5_0 p1 p4)), .val (.int (m0_10_0 p1 p4)), .val (.int (f4 p2 p1)), .val (.int (f4 p3 p1)), .unset, .unset, .unset, .unset] [(.int (f4 p3 p1)), (.int (f4 (p2 ||| p3) p1))])) _
        refine XS.ifYes X14.here hx rfl (pc0 := 100) (pc' := 107) rfl (hb hby at_100) rfl ((if0 _ _).trans (teq hc19).1) (by decide) (by decide) ?_
        show Steps p.tables e below (T14.setTop (mkF m 107 #[.val (.int p1), .val (.int p2), .val (.int p3), .val (.int p4), .val (.int p5), .val (.int p6), .val (.ref b1), .val (.int ((1 : Int32) <<< ((p4 &&& (31 : Int32)) &&& 31))), .val (.int (m0_5_0 p1 p4)), .val (.int (m0_10_0 p1 p4)), .val (.int (f4 p2 p1)), .val (.int (f4 p3 p1)), .unset, .unset, .unset, .unset] [(.int (f4 (p2 ||| p3) p1))])) _
        refine XS.iconst X14.here hx rfl (hb hby at_107) ?_
        exact k
      · rw [show (m0_16_0 p1 p2 p3) = (1 : Int32) from by first | (rw [m0_16_0, if_pos hc17, if_neg hc19]; done) | (simp only [m0_16_0, if_pos hc17, if_neg hc19]; done) | rfl] at k
        refine pre18 t ?_
        show Steps p.tables e below (T14.setTop (mkF m 100 #[.val (.int p1), .val (.int p2), .val (.int p3), .val (.int p4), .val (.int p5), .val (.int p6), .val (.ref b1), .val (.int ((1 : Int32) <<< ((p4 &&& (31 : Int32)) &&& 31))), .val (.int (m0_5_0 p1 p4)), .val (.int (m0_10_0 p1 p4)), .val (.int (f4 p2 p1)), .val (.int (f4 p3 p1)), .unset, .unset, .unset, .unset] [(.int (f4 p3 p1)), (.int (f4 (p2 ||| p3) p1))])) _
        refine XS.ifNo X14.here hx rfl (hb hby at_100) rfl ((if0 _ _).trans (feq hc19).1) ?_
        show Steps p.tables e below (T14.setTop (mkF m 103 #[.val (.int p1), .val (.int p2), .val (.int p3), .val (.int p4), .val (.int p5), .val (.int p6), .val (.ref b1), .val (.int ((1 : Int32) <<< ((p4 &&& (31 : Int32)) &&& 31))), .val (.int (m0_5_0 p1 p4)), .val (.int (m0_10_0 p1 p4)), .val (.int (f4 p2 p1)), .val (.int (f4 p3 p1)), .unset, .unset, .unset, .unset] [(.int (f4 (p2 ||| p3) p1))])) _
        refine XS.iconst X14.here hx rfl (hb hby at_103) ?_
        show Steps p.tables e below (T14.setTop (mkF m 104 #[.val (.int p1), .val (.int p2), .val (.int p3), .val (.int p4), .val (.int p5), .val (.int p6), .val (.ref b1), .val (.int ((1 : Int32) <<< ((p4 &&& (31 : Int32)) &&& 31))), .val (.int (m0_5_0 p1 p4)), .val (.int (m0_10_0 p1 p4)), .val (.int (f4 p2 p1)), .val (.int (f4 p3 p1)), .unset, .unset, .unset, .unset] [(.int (1 : Int32)), (.int (f4 (p2 ||| p3) p1))])) _
        refine XS.goto X14.here hx rfl (pc0 := 104) (pc' := 108) rfl (hb hby at_104) (by decide) (by decide) ?_
        exact k
    · rw [show (m0_16_0 p1 p2 p3) = (1 : Int32) from by first | (rw [m0_16_0, if_neg hc17]; done) | (simp only [m0_16_0, if_neg hc17]; done) | rfl] at k
      refine pre15 t ?_
      show Steps p.tables e below (T14.setTop (mkF m 95 #[.val (.int p1), .val (.int p2), .val (.int p3), .val (.int p4), .val (.int p5), .val (.int p6), .val (.ref b1), .val (.int ((1 : Int32) <<< ((p4 &&& (31 : Int32)) &&& 31))), .val (.int (m0_5_0 p1 p4)), .val (.int (m0_10_0 p1 p4)), .val (.int (f4 p2 p1)), .val (.int (f4 p3 p1)), .unset, .unset, .unset, .unset] [(.int (f4 p2 p1)), (.int (f4 (p2 ||| p3) p1))])) _
      refine XS.ifYes X14.here hx rfl (pc0 := 95) (pc' := 103) rfl (hb hby at_95) rfl ((if0 _ _).trans (feq hc17).2) (by decide) (by decide) ?_
      show Steps p.tables e below (T14.setTop (mkF m 103 #[.val (.int p1), .val (.int p2), .val (.int p3), .val (.int p4), .val (.int p5), .val (.int p6), .val (.ref b1), .val (.int ((1 : Int32) <<< ((p4 &&& (31 : Int32)) &&& 31))), .val (.int (m0_5_0 p1 p4)), .val (.int (m0_10_0 p1 p4)), .val (.int (f4 p2 p1)), .val (.int (f4 p3 p1)), .unset, .unset, .unset, .unset] [(.int (f4 (p2 ||| p3) p1))])) _
      refine XS.iconst X14.here hx rfl (hb hby at_103) ?_
      show Steps p.tables e below (T14.setTop (mkF m 104 #[.val (.int p1), .val (.int p2), .val (.int p3), .val (.int p4), .val (.int p5), .val (.int p6), .val (.ref b1), .val (.int ((1 : Int32) <<< ((p4 &&& (31 : Int32)) &&& 31))), .val (.int (m0_5_0 p1 p4)), .val (.int (m0_10_0 p1 p4)), .val (.int (f4 p2 p1)), .val (.int (f4 p3 p1)), .unset, .unset, .unset, .unset] [(.int (1 : Int32)), (.int (f4 (p2 ||| p3) p1))])) _
      refine XS.goto X14.here hx rfl (pc0 := 104) (pc' := 108) rfl (hb hby at_104) (by decide) (by decide) ?_
      exact k
  have pre20 : ∀ t, Steps p.tables e below (T14.setTop (mkF m 116 #[.val (.int p1), .val (.int p2), .val (.int p3), .val (.int p4), .val (.int p5), .val (.int p6), .val (.ref b1), .val (.int ((1 : Int32) <<< ((p4 &&& (31 : Int32)) &&& 31))), .val (.int (m0_5_0 p1 p4)), .val (.int (m0_10_0 p1 p4)), .val (.int (f4 p2 p1)), .val (.int (f4 p3 p1)), .unset, .unset, .unset, .unset] [(.int (m0_20_0 p1 p2 p3))])) t → Steps p.tables e below (s₁.setTop (entryFrame m #[(.int p1), (.int p2), (.int p3), (.int p4), (.int p5), (.int p6)] maxLocals)) t := by
    intro t k
    by_cases hc21 : (f4 (p2 ||| p3) p1) = (m0_16_0 p1 p2 p3)
    · rw [show (m0_20_0 p1 p2 p3) = (1 : Int32) from by first | (rw [m0_20_0, if_pos hc21]; done) | (simp only [m0_20_0, if_pos hc21]; done) | rfl] at k
      refine pre16 t ?_
      show Steps p.tables e below (T14.setTop (mkF m 108 #[.val (.int p1), .val (.int p2), .val (.int p3), .val (.int p4), .val (.int p5), .val (.int p6), .val (.ref b1), .val (.int ((1 : Int32) <<< ((p4 &&& (31 : Int32)) &&& 31))), .val (.int (m0_5_0 p1 p4)), .val (.int (m0_10_0 p1 p4)), .val (.int (f4 p2 p1)), .val (.int (f4 p3 p1)), .unset, .unset, .unset, .unset] [(.int (m0_16_0 p1 p2 p3)), (.int (f4 (p2 ||| p3) p1))])) _
      refine XS.icmpNo X14.here hx rfl (hb hby at_108) rfl (teq hc21).2 ?_
      show Steps p.tables e below (T14.setTop (mkF m 111 #[.val (.int p1), .val (.int p2), .val (.int p3), .val (.int p4), .val (.int p5), .val (.int p6), .val (.ref b1), .val (.int ((1 : Int32) <<< ((p4 &&& (31 : Int32)) &&& 31))), .val (.int (m0_5_0 p1 p4)), .val (.int (m0_10_0 p1 p4)), .val (.int (f4 p2 p1)), .val (.int (f4 p3 p1)), .unset, .unset, .unset, .unset] [])) _
      refine XS.iconst X14.here hx rfl (hb hby at_111) ?_
      show Steps p.tables e below (T14.setTop (mkF m 112 #[.val (.int p1), .val (.int p2), .val (.int p3), .val (.int p4), .val (.int p5), .val (.int p6), .val (.ref b1), .val (.int ((1 : Int32) <<< ((p4 &&& (31 : Int32)) &&& 31))), .val (.int (m0_5_0 p1 p4)), .val (.int (m0_10_0 p1 p4)), .val (.int (f4 p2 p1)), .val (.int (f4 p3 p1)), .unset, .unset, .unset, .unset] [(.int (1 : Int32))])) _
      refine XS.goto X14.here hx rfl (pc0 := 112) (pc' := 116) rfl (hb hby at_112) (by decide) (by decide) ?_
      exact k
    · rw [show (m0_20_0 p1 p2 p3) = (0 : Int32) from by first | (rw [m0_20_0, if_neg hc21]; done) | (simp only [m0_20_0, if_neg hc21]; done) | rfl] at k
      refine pre16 t ?_
      show Steps p.tables e below (T14.setTop (mkF m 108 #[.val (.int p1), .val (.int p2), .val (.int p3), .val (.int p4), .val (.int p5), .val (.int p6), .val (.ref b1), .val (.int ((1 : Int32) <<< ((p4 &&& (31 : Int32)) &&& 31))), .val (.int (m0_5_0 p1 p4)), .val (.int (m0_10_0 p1 p4)), .val (.int (f4 p2 p1)), .val (.int (f4 p3 p1)), .unset, .unset, .unset, .unset] [(.int (m0_16_0 p1 p2 p3)), (.int (f4 (p2 ||| p3) p1))])) _
      refine XS.icmpYes X14.here hx rfl (pc0 := 108) (pc' := 115) rfl (hb hby at_108) rfl (feq hc21).2 (by decide) (by decide) ?_
      show Steps p.tables e below (T14.setTop (mkF m 115 #[.val (.int p1), .val (.int p2), .val (.int p3), .val (.int p4), .val (.int p5), .val (.int p6), .val (.ref b1), .val (.int ((1 : Int32) <<< ((p4 &&& (31 : Int32)) &&& 31))), .val (.int (m0_5_0 p1 p4)), .val (.int (m0_10_0 p1 p4)), .val (.int (f4 p2 p1)), .val (.int (f4 p3 p1)), .unset, .unset, .unset, .unset] [])) _
      refine XS.iconst X14.here hx rfl (hb hby at_115) ?_
      exact k
  obtain ⟨cq22, kq22, q22a, q22b, q22c⟩ := isOf hZ e14 F8
  obtain ⟨_, _, ⟨T22, L22, k22, n22⟩, -, X22, ⟨Lc22, hQ22, l22, y22, z22⟩, st22⟩ := X14.virtualBack hx (y := (⟨"com/example/waymark/waymark/MessageHeaderLayout", "has", "(I)Z"⟩ : MethodName)) (z := (⟨"com/example/waymark/waymark/MessageHeaderLayout", "has", "(I)Z"⟩ : MethodName)) hown (mvT hZ (hw _ (List.mem_of_getElem? (i := 24) rfl))) (mvT hZ (hw _ (List.mem_of_getElem? (i := 25) rfl))) (notFace_of_selects (args := #[]) (mvT hZ (hw _ (List.mem_of_getElem? (i := 27) rfl)))) (mvT hZ (hw _ (List.mem_of_getElem? (i := 27) rfl))) (mvT hZ (hw _ (List.mem_of_getElem? (i := 26) rfl))) (by decide) (backOf (W := 0) (rm4 l Z a0 hw [] b1 (0 : Int32) p1 (T2.heap) n0 (Nat.le_trans Z0 K3.1) P2_0) hZ (hw _ (List.mem_of_getElem? (i := 28) rfl)) (hw _ (List.mem_of_getElem? (i := 2) rfl)) (by decide) (by decide)) q22a q22c (g := (mkF m 121 #[.val (.int p1), .val (.int p2), .val (.int p3), .val (.int p4), .val (.int p5), .val (.int p6), .val (.ref b1), .val (.int ((1 : Int32) <<< ((p4 &&& (31 : Int32)) &&& 31))), .val (.int (m0_5_0 p1 p4)), .val (.int (m0_10_0 p1 p4)), .val (.int (f4 p2 p1)), .val (.int (f4 p3 p1)), .val (.int (m0_20_0 p1 p2 p3)), .unset, .unset, .unset] [(.int (0 : Int32)), (.ref b1)])) rfl (by rw [hml]; rfl) (Steps.refl _) (argsL := [(.int (0 : Int32))]) (rest := []) (lenOf pd_2 rfl) rfl (by show 2 * 0 + _ ≤ _; exact Nat.le_of_eq rfl) (hb hby at_121) (fun _ _ => ⟨rfl, e14, (by decide : 1 + 0 ≤ _), (by decide : 5 + 0 ≤ _)⟩)
  dsimp only [Pt.U, Pt.locs, Pt.cells, Pt.slots] at X22 l22 y22 z22 st22 hQ22
  subst l22 y22 z22
  obtain ⟨rfl, N22q, e22⟩ := hQ22
  have N22 := Fr.app N14 N22q
  have pre23 : ∀ t, Steps p.tables e below (T22.setTop (mkF m 124 #[.val (.int p1), .val (.int p2), .val (.int p3), .val (.int p4), .val (.int p5), .val (.int p6), .val (.ref b1), .val (.int ((1 : Int32) <<< ((p4 &&& (31 : Int32)) &&& 31))), .val (.int (m0_5_0 p1 p4)), .val (.int (m0_10_0 p1 p4)), .val (.int (f4 p2 p1)), .val (.int (f4 p3 p1)), .val (.int (m0_20_0 p1 p2 p3)), .unset, .unset, .unset] [(.int (f4 (0 : Int32) p1))])) t → Steps p.tables e below (s₁.setTop (entryFrame m #[(.int p1), (.int p2), (.int p3), (.int p4), (.int p5), (.int p6)] maxLocals)) t := fun t k => pre20 t (by
    show Steps p.tables e below (T14.setTop (mkF m 116 #[.val (.int p1), .val (.int p2), .val (.int p3), .val (.int p4), .val (.int p5), .val (.int p6), .val (.ref b1), .val (.int ((1 : Int32) <<< ((p4 &&& (31 : Int32)) &&& 31))), .val (.int (m0_5_0 p1 p4)), .val (.int (m0_10_0 p1 p4)), .val (.int (f4 p2 p1)), .val (.int (f4 p3 p1)), .unset, .unset, .unset, .unset] [(.int (m0_20_0 p1 p2 p3))])) _
    refine XS.istore X14.here hx rfl (hb hby at_116) rfl (l' := #[.val (.int p1), .val (.int p2), .val (.int p3), .val (.int p4), .val (.int p5), .val (.int p6), .val (.ref b1), .val (.int ((1 : Int32) <<< ((p4 &&& (31 : Int32)) &&& 31))), .val (.int (m0_5_0 p1 p4)), .val (.int (m0_10_0 p1 p4)), .val (.int (f4 p2 p1)), .val (.int (f4 p3 p1)), .val (.int (m0_20_0 p1 p2 p3)), .unset, .unset, .unset]) rfl ?_
    show Steps p.tables e below (T14.setTop (mkF m 118 #[.val (.int p1), .val (.int p2), .val (.int p3), .val (.int p4), .val (.int p5), .val (.int p6), .val (.ref b1), .val (.int ((1 : Int32) <<< ((p4 &&& (31 : Int32)) &&& 31))), .val (.int (m0_5_0 p1 p4)), .val (.int (m0_10_0 p1 p4)), .val (.int (f4 p2 p1)), .val (.int (f4 p3 p1)), .val (.int (m0_20_0 p1 p2 p3)), .unset, .unset, .unset] [])) _
    refine XS.aload X14.here hx rfl (hb hby at_118) rfl rfl ?_
    show Steps p.tables e below (T14.setTop (mkF m 120 #[.val (.int p1), .val (.int p2), .val (.int p3), .val (.int p4), .val (.int p5), .val (.int p6), .val (.ref b1), .val (.int ((1 : Int32) <<< ((p4 &&& (31 : Int32)) &&& 31))), .val (.int (m0_5_0 p1 p4)), .val (.int (m0_10_0 p1 p4)), .val (.int (f4 p2 p1)), .val (.int (f4 p3 p1)), .val (.int (m0_20_0 p1 p2 p3)), .unset, .unset, .unset] [(.ref b1)])) _
    refine XS.iconst X14.here hx rfl (hb hby at_120) ?_
    show Steps p.tables e below (T14.setTop (mkF m 121 #[.val (.int p1), .val (.int p2), .val (.int p3), .val (.int p4), .val (.int p5), .val (.int p6), .val (.ref b1), .val (.int ((1 : Int32) <<< ((p4 &&& (31 : Int32)) &&& 31))), .val (.int (m0_5_0 p1 p4)), .val (.int (m0_10_0 p1 p4)), .val (.int (f4 p2 p1)), .val (.int (f4 p3 p1)), .val (.int (m0_20_0 p1 p2 p3)), .unset, .unset, .unset] [(.int (0 : Int32)), (.ref b1)])) _
    refine st22.trans ?_
    exact k)
  have pre24 : ∀ t, Steps p.tables e below (T22.setTop (mkF m 132 #[.val (.int p1), .val (.int p2), .val (.int p3), .val (.int p4), .val (.int p5), .val (.int p6), .val (.ref b1), .val (.int ((1 : Int32) <<< ((p4 &&& (31 : Int32)) &&& 31))), .val (.int (m0_5_0 p1 p4)), .val (.int (m0_10_0 p1 p4)), .val (.int (f4 p2 p1)), .val (.int (f4 p3 p1)), .val (.int (m0_20_0 p1 p2 p3)), .unset, .unset, .unset] [(.int (m0_24_0 p1))])) t → Steps p.tables e below (s₁.setTop (entryFrame m #[(.int p1), (.int p2), (.int p3), (.int p4), (.int p5), (.int p6)] maxLocals)) t := by
    intro t k
    by_cases hc25 : (f4 (0 : Int32) p1) = (0 : Int32)
    · rw [show (m0_24_0 p1) = (1 : Int32) from by first | (rw [m0_24_0, if_pos hc25]; done) | (simp only [m0_24_0, if_pos hc25]; done) | rfl] at k
      refine pre23 t ?_
      show Steps p.tables e below (T22.setTop (mkF m 124 #[.val (.int p1), .val (.int p2), .val (.int p3), .val (.int p4), .val (.int p5), .val (.int p6), .val (.ref b1), .val (.int ((1 : Int32) <<< ((p4 &&& (31 : Int32)) &&& 31))), .val (.int (m0_5_0 p1 p4)), .val (.int (m0_10_0 p1 p4)), .val (.int (f4 p2 p1)), .val (.int (f4 p3 p1)), .val (.int (m0_20_0 p1 p2 p3)), .unset, .unset, .unset] [(.int (f4 (0 : Int32) p1))])) _
      refine XS.ifNo X22.here hx rfl (hb hby at_124) rfl ((if0 _ _).trans (teq hc25).2) ?_
      show Steps p.tables e below (T22.setTop (mkF m 127 #[.val (.int p1), .val (.int p2), .val (.int p3), .val (.int p4), .val (.int p5), .val (.int p6), .val (.ref b1), .val (.int ((1 : Int32) <<< ((p4 &&& (31 : Int32)) &&& 31))), .val (.int (m0_5_0 p1 p4)), .val (.int (m0_10_0 p1 p4)), .val (.int (f4 p2 p1)), .val (.int (f4 p3 p1)), .val (.int (m0_20_0 p1 p2 p3)), .unset, .unset, .unset] [])) _
      refine XS.iconst X22.here hx rfl (hb hby at_127) ?_
      show Steps p.tables e below (T22.setTop (mkF m 128 #[.val (.int p1), .val (.int p2), .val (.int p3), .val (.int p4), .val (.int p5), .val (.int p6), .val (.ref b1), .val (.int ((1 : Int32) <<< ((p4 &&& (31 : Int32)) &&& 31))), .val (.int (m0_5_0 p1 p4)), .val (.int (m0_10_0 p1 p4)), .val (.int (f4 p2 p1)), .val (.int (f4 p3 p1)), .val (.int (m0_20_0 p1 p2 p3)), .unset, .unset, .unset] [(.int (1 : Int32))])) _
      refine XS.goto X22.here hx rfl (pc0 := 128) (pc' := 132) rfl (hb hby at_128) (by decide) (by decide) ?_
      exact k
    · rw [show (m0_24_0 p1) = (0 : Int32) from by first | (rw [m0_24_0, if_neg hc25]; done) | (simp only [m0_24_0, if_neg hc25]; done) | rfl] at k
      refine pre23 t ?_
      show Steps p.tables e below (T22.setTop (mkF m 124 #[.val (.int p1), .val (.int p2), .val (.int p3), .val (.int p4), .val (.int p5), .val (.int p6), .val (.ref b1), .val (.int ((1 : Int32) <<< ((p4 &&& (31 : Int32)) &&& 31))), .val (.int (m0_5_0 p1 p4)), .val (.int (m0_10_0 p1 p4)), .val (.int (f4 p2 p1)), .val (.int (f4 p3 p1)), .val (.int (m0_20_0 p1 p2 p3)), .unset, .unset, .unset] [(.int (f4 (0 : Int32) p1))])) _
      refine XS.ifYes X22.here hx rfl (pc0 := 124) (pc' := 131) rfl (hb hby at_124) rfl ((if0 _ _).trans (feq hc25).2) (by decide) (by decide) ?_
      show Steps p.tables e below (T22.setTop (mkF m 131 #[.val (.int p1), .val (.int p2), .val (.int p3), .val (.int p4), .val (.int p5), .val (.int p6), .val (.ref b1), .val (.int ((1 : Int32) <<< ((p4 &&& (31 : Int32)) &&& 31))), .val (.int (m0_5_0 p1 p4)), .val (.int (m0_10_0 p1 p4)), .val (.int (f4 p2 p1)), .val (.int (f4 p3 p1)), .val (.int (m0_20_0 p1 p2 p3)), .unset, .unset, .unset] [])) _
      refine XS.iconst X22.here hx rfl (hb hby at_131) ?_
      exact k
  obtain ⟨cq26, kq26, q26a, q26b, q26c⟩ := isOf hZ e22 F8
  obtain ⟨_, _, ⟨T26, L26, k26, n26⟩, -, X26, ⟨Lc26, hQ26, l26, y26, z26⟩, st26⟩ := X22.virtualBack hx (y := (⟨"com/example/waymark/waymark/MessageHeaderLayout", "has", "(I)Z"⟩ : MethodName)) (z := (⟨"com/example/waymark/waymark/MessageHeaderLayout", "has", "(I)Z"⟩ : MethodName)) hown (mvT hZ (hw _ (List.mem_of_getElem? (i := 24) rfl))) (mvT hZ (hw _ (List.mem_of_getElem? (i := 25) rfl))) (notFace_of_selects (args := #[]) (mvT hZ (hw _ (List.mem_of_getElem? (i := 27) rfl)))) (mvT hZ (hw _ (List.mem_of_getElem? (i := 27) rfl))) (mvT hZ (hw _ (List.mem_of_getElem? (i := 26) rfl))) (by decide) (backOf (W := 0) (rm4 l Z a0 hw [] b1 (-1 : Int32) p1 (T2.heap) n0 (Nat.le_trans Z0 K3.1) P2_0) hZ (hw _ (List.mem_of_getElem? (i := 28) rfl)) (hw _ (List.mem_of_getElem? (i := 2) rfl)) (by decide) (by decide)) q26a q26c (g := (mkF m 137 #[.val (.int p1), .val (.int p2), .val (.int p3), .val (.int p4), .val (.int p5), .val (.int p6), .val (.ref b1), .val (.int ((1 : Int32) <<< ((p4 &&& (31 : Int32)) &&& 31))), .val (.int (m0_5_0 p1 p4)), .val (.int (m0_10_0 p1 p4)), .val (.int (f4 p2 p1)), .val (.int (f4 p3 p1)), .val (.int (m0_20_0 p1 p2 p3)), .val (.int (m0_24_0 p1)), .unset, .unset] [(.int (-1 : Int32)), (.ref b1)])) rfl (by rw [hml]; rfl) (Steps.refl _) (argsL := [(.int (-1 : Int32))]) (rest := []) (lenOf pd_2 rfl) rfl (by show 2 * 0 + _ ≤ _; exact Nat.le_of_eq rfl) (hb hby at_137) (fun _ _ => ⟨rfl, e22, (by decide : 1 + 0 ≤ _), (by decide : 5 + 0 ≤ _)⟩)
  dsimp only [Pt.U, Pt.locs, Pt.cells, Pt.slots] at X26 l26 y26 z26 st26 hQ26
  subst l26 y26 z26
  obtain ⟨rfl, N26q, e26⟩ := hQ26
  have N26 := Fr.app N22 N26q
  have pre27 : ∀ t, Steps p.tables e below (T26.setTop (mkF m 141 #[.val (.int p1), .val (.int p2), .val (.int p3), .val (.int p4), .val (.int p5), .val (.int p6), .val (.ref b1), .val (.int ((1 : Int32) <<< ((p4 &&& (31 : Int32)) &&& 31))), .val (.int (m0_5_0 p1 p4)), .val (.int (m0_10_0 p1 p4)), .val (.int (f4 p2 p1)), .val (.int (f4 p3 p1)), .val (.int (m0_20_0 p1 p2 p3)), .val (.int (m0_24_0 p1)), .unset, .unset] [(.int p1), (.int (f4 (-1 : Int32) p1))])) t → Steps p.tables e below (s₁.setTop (entryFrame m #[(.int p1), (.int p2), (.int p3), (.int p4), (.int p5), (.int p6)] maxLocals)) t := fun t k => pre24 t (by
    show Steps p.tables e below (T22.setTop (mkF m 132 #[.val (.int p1), .val (.int p2), .val (.int p3), .val (.int p4), .val (.int p5), .val (.int p6), .val (.ref b1), .val (.int ((1 : Int32) <<< ((p4 &&& (31 : Int32)) &&& 31))), .val (.int (m0_5_0 p1 p4)), .val (.int (m0_10_0 p1 p4)), .val (.int (f4 p2 p1)), .val (.int (f4 p3 p1)), .val (.int (m0_20_0 p1 p2 p3)), .unset, .unset, .unset] [(.int (m0_24_0 p1))])) _
    refine XS.istore X22.here hx rfl (hb hby at_132) rfl (l' := #[.val (.int p1), .val (.int p2), .val (.int p3), .val (.int p4), .val (.int p5), .val (.int p6), .val (.ref b1), .val (.int ((1 : Int32) <<< ((p4 &&& (31 : Int32)) &&& 31))), .val (.int (m0_5_0 p1 p4)), .val (.int (m0_10_0 p1 p4)), .val (.int (f4 p2 p1)), .val (.int (f4 p3 p1)), .val (.int (m0_20_0 p1 p2 p3)), .val (.int (m0_24_0 p1)), .unset, .unset]) rfl ?_
    show Steps p.tables e below (T22.setTop (mkF m 134 #[.val (.int p1), .val (.int p2), .val (.int p3), .val (.int p4), .val (.int p5), .val (.int p6), .val (.ref b1), .val (.int ((1 : Int32) <<< ((p4 &&& (31 : Int32)) &&& 31))), .val (.int (m0_5_0 p1 p4)), .val (.int (m0_10_0 p1 p4)), .val (.int (f4 p2 p1)), .val (.int (f4 p3 p1)), .val (.int (m0_20_0 p1 p2 p3)), .val (.int (m0_24_0 p1)), .unset, .unset] [])) _
    refine XS.aload X22.here hx rfl (hb hby at_134) rfl rfl ?_
    show Steps p.tables e below (T22.setTop (mkF m 136 #[.val (.int p1), .val (.int p2), .val (.int p3), .val (.int p4), .val (.int p5), .val (.int p6), .val (.ref b1), .val (.int ((1 : Int32) <<< ((p4 &&& (31 : Int32)) &&& 31))), .val (.int (m0_5_0 p1 p4)), .val (.int (m0_10_0 p1 p4)), .val (.int (f4 p2 p1)), .val (.int (f4 p3 p1)), .val (.int (m0_20_0 p1 p2 p3)), .val (.int (m0_24_0 p1)), .unset, .unset] [(.ref b1)])) _
    refine XS.iconst X22.here hx rfl (hb hby at_136) ?_
    show Steps p.tables e below (T22.setTop (mkF m 137 #[.val (.int p1), .val (.int p2), .val (.int p3), .val (.int p4), .val (.int p5), .val (.int p6), .val (.ref b1), .val (.int ((1 : Int32) <<< ((p4 &&& (31 : Int32)) &&& 31))), .val (.int (m0_5_0 p1 p4)), .val (.int (m0_10_0 p1 p4)), .val (.int (f4 p2 p1)), .val (.int (f4 p3 p1)), .val (.int (m0_20_0 p1 p2 p3)), .val (.int (m0_24_0 p1)), .unset, .unset] [(.int (-1 : Int32)), (.ref b1)])) _
    refine st26.trans ?_
    show Steps p.tables e below (T26.setTop (mkF m 140 #[.val (.int p1), .val (.int p2), .val (.int p3), .val (.int p4), .val (.int p5), .val (.int p6), .val (.ref b1), .val (.int ((1 : Int32) <<< ((p4 &&& (31 : Int32)) &&& 31))), .val (.int (m0_5_0 p1 p4)), .val (.int (m0_10_0 p1 p4)), .val (.int (f4 p2 p1)), .val (.int (f4 p3 p1)), .val (.int (m0_20_0 p1 p2 p3)), .val (.int (m0_24_0 p1)), .unset, .unset] [(.int (f4 (-1 : Int32) p1))])) _
    refine XS.iloadN X26.here hx rfl (hb hby at_140) rfl ?_
    exact k)
  have pre28 : ∀ t, Steps p.tables e below (T26.setTop (mkF m 149 #[.val (.int p1), .val (.int p2), .val (.int p3), .val (.int p4), .val (.int p5), .val (.int p6), .val (.ref b1), .val (.int ((1 : Int32) <<< ((p4 &&& (31 : Int32)) &&& 31))), .val (.int (m0_5_0 p1 p4)), .val (.int (m0_10_0 p1 p4)), .val (.int (f4 p2 p1)), .val (.int (f4 p3 p1)), .val (.int (m0_20_0 p1 p2 p3)), .val (.int (m0_24_0 p1)), .unset, .unset] [(.int (m0_28_0 p1)), (.int (f4 (-1 : Int32) p1))])) t → Steps p.tables e below (s₁.setTop (entryFrame m #[(.int p1), (.int p2), (.int p3), (.int p4), (.int p5), (.int p6)] maxLocals)) t := by
    intro t k
    by_cases hc29 : p1 = (0 : Int32)
    · rw [show (m0_28_0 p1) = (0 : Int32) from by first | (rw [m0_28_0, if_pos hc29]; done) | (simp only [m0_28_0, if_pos hc29]; done) | rfl] at k
      refine pre27 t ?_
      show Steps p.tables e below (T26.setTop (mkF m 141 #[.val (.int p1), .val (.int p2), .val (.int p3), .val (.int p4), .val (.int p5), .val (.int p6), .val (.ref b1), .val (.int ((1 : Int32) <<< ((p4 &&& (31 : Int32)) &&& 31))), .val (.int (m0_5_0 p1 p4)), .val (.int (m0_10_0 p1 p4)), .val (.int (f4 p2 p1)), .val (.int (f4 p3 p1)), .val (.int (m0_20_0 p1 p2 p3)), .val (.int (m0_24_0 p1)), .unset, .unset] [(.int p1), (.int (f4 (-1 : Int32) p1))])) _
      refine XS.ifYes X26.here hx rfl (pc0 := 141) (pc' := 148) rfl (hb hby at_141) rfl ((if0 _ _).trans (teq hc29).1) (by decide) (by decide) ?_
      show Steps p.tables e below (T26.setTop (mkF m 148 #[.val (.int p1), .val (.int p2), .val (.int p3), .val (.int p4), .val (.int p5), .val (.int p6), .val (.ref b1), .val (.int ((1 : Int32) <<< ((p4 &&& (31 : Int32)) &&& 31))), .val (.int (m0_5_0 p1 p4)), .val (.int (m0_10_0 p1 p4)), .val (.int (f4 p2 p1)), .val (.int (f4 p3 p1)), .val (.int (m0_20_0 p1 p2 p3)), .val (.int (m0_24_0 p1)), .unset, .unset] [(.int (f4 (-1 : Int32) p1))])) _
      refine XS.iconst X26.here hx rfl (hb hby at_148) ?_
      exact k
    · rw [show (m0_28_0 p1) = (1 : Int32) from by first | (rw [m0_28_0, if_neg hc29]; done) | (simp only [m0_28_0, if_neg hc29]; done) | rfl] at k
      refine pre27 t ?_
      show Steps p.tables e below (T26.setTop (mkF m 141 #[.val (.int p1), .val (.int p2), .val (.int p3), .val (.int p4), .val (.int p5), .val (.int p6), .val (.ref b1), .val (.int ((1 : Int32) <<< ((p4 &&& (31 : Int32)) &&& 31))), .val (.int (m0_5_0 p1 p4)), .val (.int (m0_10_0 p1 p4)), .val (.int (f4 p2 p1)), .val (.int (f4 p3 p1)), .val (.int (m0_20_0 p1 p2 p3)), .val (.int (m0_24_0 p1)), .unset, .unset] [(.int p1), (.int (f4 (-1 : Int32) p1))])) _
      refine XS.ifNo X26.here hx rfl (hb hby at_141) rfl ((if0 _ _).trans (feq hc29).1) ?_
      show Steps p.tables e below (T26.setTop (mkF m 144 #[.val (.int p1), .val (.int p2), .val (.int p3), .val (.int p4), .val (.int p5), .val (.int p6), .val (.ref b1), .val (.int ((1 : Int32) <<< ((p4 &&& (31 : Int32)) &&& 31))), .val (.int (m0_5_0 p1 p4)), .val (.int (m0_10_0 p1 p4)), .val (.int (f4 p2 p1)), .val (.int (f4 p3 p1)), .val (.int (m0_20_0 p1 p2 p3)), .val (.int (m0_24_0 p1)), .unset, .unset] [(.int (f4 (-1 : Int32) p1))])) _
      refine XS.iconst X26.here hx rfl (hb hby at_144) ?_
      show Steps p.tables e below (T26.setTop (mkF m 145 #[.val (.int p1), .val (.int p2), .val (.int p3), .val (.int p4), .val (.int p5), .val (.int p6), .val (.ref b1), .val (.int ((1 : Int32) <<< ((p4 &&& (31 : Int32)) &&& 31))), .val (.int (m0_5_0 p1 p4)), .val (.int (m0_10_0 p1 p4)), .val (.int (f4 p2 p1)), .val (.int (f4 p3 p1)), .val (.int (m0_20_0 p1 p2 p3)), .val (.int (m0_24_0 p1)), .unset, .unset] [(.int (1 : Int32)), (.int (f4 (-1 : Int32) p1))])) _
      refine XS.goto X26.here hx rfl (pc0 := 145) (pc' := 149) rfl (hb hby at_145) (by decide) (by decide) ?_
      exact k
  have pre30 : ∀ t, Steps p.tables e below (T26.setTop (mkF m 157 #[.val (.int p1), .val (.int p2), .val (.int p3), .val (.int p4), .val (.int p5), .val (.int p6), .val (.ref b1), .val (.int ((1 : Int32) <<< ((p4 &&& (31 : Int32)) &&& 31))), .val (.int (m0_5_0 p1 p4)), .val (.int (m0_10_0 p1 p4)), .val (.int (f4 p2 p1)), .val (.int (f4 p3 p1)), .val (.int (m0_20_0 p1 p2 p3)), .val (.int (m0_24_0 p1)), .unset, .unset] [(.int (m0_30_0 p1))])) t → Steps p.tables e below (s₁.setTop (entryFrame m #[(.int p1), (.int p2), (.int p3), (.int p4), (.int p5), (.int p6)] maxLocals)) t := by
    intro t k
    by_cases hc31 : (f4 (-1 : Int32) p1) = (m0_28_0 p1)
    · rw [show (m0_30_0 p1) = (1 : Int32) from by first | (rw [m0_30_0, if_pos hc31]; done) | (simp only [m0_30_0, if_pos hc31]; done) | rfl] at k
      refine pre28 t ?_
      show Steps p.tables e below (T26.setTop (mkF m 149 #[.val (.int p1), .val (.int p2), .val (.int p3), .val (.int p4), .val (.int p5), .val (.int p6), .val (.ref b1), .val (.int ((1 : Int32) <<< ((p4 &&& (31 : Int32)) &&& 31))), .val (.int (m0_5_0 p1 p4)), .val (.int (m0_10_0 p1 p4)), .val (.int (f4 p2 p1)), .val (.int (f4 p3 p1)), .val (.int (m0_20_0 p1 p2 p3)), .val (.int (m0_24_0 p1)), .unset, .unset] [(.int (m0_28_0 p1)), (.int (f4 (-1 : Int32) p1))])) _
      refine XS.icmpNo X26.here hx rfl (hb hby at_149) rfl (teq hc31).2 ?_
      show Steps p.tables e below (T26.setTop (mkF m 152 #[.val (.int p1), .val (.int p2), .val (.int p3), .val (.int p4), .val (.int p5), .val (.int p6), .val (.ref b1), .val (.int ((1 : Int32) <<< ((p4 &&& (31 : Int32)) &&& 31))), .val (.int (m0_5_0 p1 p4)), .val (.int (m0_10_0 p1 p4)), .val (.int (f4 p2 p1)), .val (.int (f4 p3 p1)), .val (.int (m0_20_0 p1 p2 p3)), .val (.int (m0_24_0 p1)), .unset, .unset] [])) _
      refine XS.iconst X26.here hx rfl (hb hby at_152) ?_
      show Steps p.tables e below (T26.setTop (mkF m 153 #[.val (.int p1), .val (.int p2), .val (.int p3), .val (.int p4), .val (.int p5), .val (.int p6), .val (.ref b1), .val (.int ((1 : Int32) <<< ((p4 &&& (31 : Int32)) &&& 31))), .val (.int (m0_5_0 p1 p4)), .val (.int (m0_10_0 p1 p4)), .val (.int (f4 p2 p1)), .val (.int (f4 p3 p1)), .val (.int (m0_20_0 p1 p2 p3)), .val (.int (m0_24_0 p1)), .unset, .unset] [(.int (1 : Int32))])) _
      refine XS.goto X26.here hx rfl (pc0 := 153) (pc' := 157) rfl (hb hby at_153) (by decide) (by decide) ?_
      exact k
    · rw [show (m0_30_0 p1) = (0 : Int32) from by first | (rw [m0_30_0, if_neg hc31]; done) | (simp only [m0_30_0, if_neg hc31]; done) | rfl] at k
      refine pre28 t ?_
      show Steps p.tables e below (T26.setTop (mkF m 149 #[.val (.int p1), .val (.int p2), .val (.int p3), .val (.int p4), .val (.int p5), .val (.int p6), .val (.ref b1), .val (.int ((1 : Int32) <<< ((p4 &&& (31 : Int32)) &&& 31))), .val (.int (m0_5_0 p1 p4)), .val (.int (m0_10_0 p1 p4)), .val (.int (f4 p2 p1)), .val (.int (f4 p3 p1)), .val (.int (m0_20_0 p1 p2 p3)), .val (.int (m0_24_0 p1)), .unset, .unset] [(.int (m0_28_0 p1)), (.int (f4 (-1 : Int32) p1))])) _
      refine XS.icmpYes X26.here hx rfl (pc0 := 149) (pc' := 156) rfl (hb hby at_149) rfl (feq hc31).2 (by decide) (by decide) ?_
      show Steps p.tables e below (T26.setTop (mkF m 156 #[.val (.int p1), .val (.int p2), .val (.int p3), .val (.int p4), .val (.int p5), .val (.int p6), .val (.ref b1), .val (.int ((1 : Int32) <<< ((p4 &&& (31 : Int32)) &&& 31))), .val (.int (m0_5_0 p1 p4)), .val (.int (m0_10_0 p1 p4)), .val (.int (f4 p2 p1)), .val (.int (f4 p3 p1)), .val (.int (m0_20_0 p1 p2 p3)), .val (.int (m0_24_0 p1)), .unset, .unset] [])) _
      refine XS.iconst X26.here hx rfl (hb hby at_156) ?_
      exact k
  obtain ⟨cq32, kq32, q32a, q32b, q32c⟩ := isOf hZ e26 F8
  obtain ⟨_, _, ⟨T32, L32, k32, n32⟩, -, X32, ⟨Lc32, hQ32, l32, y32, z32⟩, st32⟩ := X26.virtualBack hx (y := (⟨"com/example/waymark/waymark/MessageHeaderLayout", "has", "(I)Z"⟩ : MethodName)) (z := (⟨"com/example/waymark/waymark/MessageHeaderLayout", "has", "(I)Z"⟩ : MethodName)) hown (mvT hZ (hw _ (List.mem_of_getElem? (i := 24) rfl))) (mvT hZ (hw _ (List.mem_of_getElem? (i := 25) rfl))) (notFace_of_selects (args := #[]) (mvT hZ (hw _ (List.mem_of_getElem? (i := 27) rfl)))) (mvT hZ (hw _ (List.mem_of_getElem? (i := 27) rfl))) (mvT hZ (hw _ (List.mem_of_getElem? (i := 26) rfl))) (by decide) (backOf (W := 1) (rm4 l Z a0 hw [] b1 (p2 &&& p1) p1 (T2.heap) n0 (Nat.le_trans Z0 K3.1) P2_0) hZ (hw _ (List.mem_of_getElem? (i := 28) rfl)) (hw _ (List.mem_of_getElem? (i := 2) rfl)) (by decide) (by decide)) q32a q32c (g := (mkF m 166 #[.val (.int p1), .val (.int p2), .val (.int p3), .val (.int p4), .val (.int p5), .val (.int p6), .val (.ref b1), .val (.int ((1 : Int32) <<< ((p4 &&& (31 : Int32)) &&& 31))), .val (.int (m0_5_0 p1 p4)), .val (.int (m0_10_0 p1 p4)), .val (.int (f4 p2 p1)), .val (.int (f4 p3 p1)), .val (.int (m0_20_0 p1 p2 p3)), .val (.int (m0_24_0 p1)), .val (.int (m0_30_0 p1)), .unset] [(.int (p2 &&& p1)), (.ref b1), (.int (f4 p2 p1))])) rfl (by rw [hml]; rfl) (Steps.refl _) (argsL := [(.int (p2 &&& p1))]) (rest := [(.int (f4 p2 p1))]) (lenOf pd_2 rfl) rfl (by show 2 * 0 + _ ≤ _; exact Nat.le_of_eq rfl) (hb hby at_166) (fun _ _ => ⟨rfl, e26, (by decide : 1 + 0 ≤ _), (by decide : 5 + 0 ≤ _)⟩)
  dsimp only [Pt.U, Pt.locs, Pt.cells, Pt.slots] at X32 l32 y32 z32 st32 hQ32
  subst l32 y32 z32
  obtain ⟨rfl, N32q, e32⟩ := hQ32
  have N32 := Fr.app N26 N32q
  have pre33 : ∀ t, Steps p.tables e below (T32.setTop (mkF m 169 #[.val (.int p1), .val (.int p2), .val (.int p3), .val (.int p4), .val (.int p5), .val (.int p6), .val (.ref b1), .val (.int ((1 : Int32) <<< ((p4 &&& (31 : Int32)) &&& 31))), .val (.int (m0_5_0 p1 p4)), .val (.int (m0_10_0 p1 p4)), .val (.int (f4 p2 p1)), .val (.int (f4 p3 p1)), .val (.int (m0_20_0 p1 p2 p3)), .val (.int (m0_24_0 p1)), .val (.int (m0_30_0 p1)), .unset] [(.int (f4 (p2 &&& p1) p1)), (.int (f4 p2 p1))])) t → Steps p.tables e below (s₁.setTop (entryFrame m #[(.int p1), (.int p2), (.int p3), (.int p4), (.int p5), (.int p6)] maxLocals)) t := fun t k => pre30 t (by
    show Steps p.tables e below (T26.setTop (mkF m 157 #[.val (.int p1), .val (.int p2), .val (.int p3), .val (.int p4), .val (.int p5), .val (.int p6), .val (.ref b1), .val (.int ((1 : Int32) <<< ((p4 &&& (31 : Int32)) &&& 31))), .val (.int (m0_5_0 p1 p4)), .val (.int (m0_10_0 p1 p4)), .val (.int (f4 p2 p1)), .val (.int (f4 p3 p1)), .val (.int (m0_20_0 p1 p2 p3)), .val (.int (m0_24_0 p1)), .unset, .unset] [(.int (m0_30_0 p1))])) _
    refine XS.istore X26.here hx rfl (hb hby at_157) rfl (l' := #[.val (.int p1), .val (.int p2), .val (.int p3), .val (.int p4), .val (.int p5), .val (.int p6), .val (.ref b1), .val (.int ((1 : Int32) <<< ((p4 &&& (31 : Int32)) &&& 31))), .val (.int (m0_5_0 p1 p4)), .val (.int (m0_10_0 p1 p4)), .val (.int (f4 p2 p1)), .val (.int (f4 p3 p1)), .val (.int (m0_20_0 p1 p2 p3)), .val (.int (m0_24_0 p1)), .val (.int (m0_30_0 p1)), .unset]) rfl ?_
    show Steps p.tables e below (T26.setTop (mkF m 159 #[.val (.int p1), .val (.int p2), .val (.int p3), .val (.int p4), .val (.int p5), .val (.int p6), .val (.ref b1), .val (.int ((1 : Int32) <<< ((p4 &&& (31 : Int32)) &&& 31))), .val (.int (m0_5_0 p1 p4)), .val (.int (m0_10_0 p1 p4)), .val (.int (f4 p2 p1)), .val (.int (f4 p3 p1)), .val (.int (m0_20_0 p1 p2 p3)), .val (.int (m0_24_0 p1)), .val (.int (m0_30_0 p1)), .unset] [])) _
    refine XS.iload X26.here hx rfl (hb hby at_159) rfl ?_
    show Steps p.tables e below (T26.setTop (mkF m 161 #[.val (.int p1), .val (.int p2), .val (.int p3), .val (.int p4), .val (.int p5), .val (.int p6), .val (.ref b1), .val (.int ((1 : Int32) <<< ((p4 &&& (31 : Int32)) &&& 31))), .val (.int (m0_5_0 p1 p4)), .val (.int (m0_10_0 p1 p4)), .val (.int (f4 p2 p1)), .val (.int (f4 p3 p1)), .val (.int (m0_20_0 p1 p2 p3)), .val (.int (m0_24_0 p1)), .val (.int (m0_30_0 p1)), .unset] [(.int (f4 p2 p1))])) _
    refine XS.aload X26.here hx rfl (hb hby at_161) rfl rfl ?_
    show Steps p.tables e below (T26.setTop (mkF m 163 #[.val (.int p1), .val (.int p2), .val (.int p3), .val (.int p4), .val (.int p5), .val (.int p6), .val (.ref b1), .val (.int ((1 : Int32) <<< ((p4 &&& (31 : Int32)) &&& 31))), .val (.int (m0_5_0 p1 p4)), .val (.int (m0_10_0 p1 p4)), .val (.int (f4 p2 p1)), .val (.int (f4 p3 p1)), .val (.int (m0_20_0 p1 p2 p3)), .val (.int (m0_24_0 p1)), .val (.int (m0_30_0 p1)), .unset] [(.ref b1), (.int (f4 p2 p1))])) _
    refine XS.iloadN X26.here hx rfl (hb hby at_163) rfl ?_
    show Steps p.tables e below (T26.setTop (mkF m 164 #[.val (.int p1), .val (.int p2), .val (.int p3), .val (.int p4), .val (.int p5), .val (.int p6), .val (.ref b1), .val (.int ((1 : Int32) <<< ((p4 &&& (31 : Int32)) &&& 31))), .val (.int (m0_5_0 p1 p4)), .val (.int (m0_10_0 p1 p4)), .val (.int (f4 p2 p1)), .val (.int (f4 p3 p1)), .val (.int (m0_20_0 p1 p2 p3)), .val (.int (m0_24_0 p1)), .val (.int (m0_30_0 p1)), .unset] [(.int p2), (.ref b1), (.int (f4 p2 p1))])) _
    refine XS.iloadN X26.here hx rfl (hb hby at_164) rfl ?_
    show Steps p.tables e below (T26.setTop (mkF m 165 #[.val (.int p1), .val (.int p2), .val (.int p3), .val (.int p4), .val (.int p5), .val (.int p6), .val (.ref b1), .val (.int ((1 : Int32) <<< ((p4 &&& (31 : Int32)) &&& 31))), .val (.int (m0_5_0 p1 p4)), .val (.int (m0_10_0 p1 p4)), .val (.int (f4 p2 p1)), .val (.int (f4 p3 p1)), .val (.int (m0_20_0 p1 p2 p3)), .val (.int (m0_24_0 p1)), .val (.int (m0_30_0 p1)), .unset] [(.int p1), (.int p2), (.ref b1), (.int (f4 p2 p1))])) _
    refine XS.iand X26.here hx rfl (hb hby at_165) rfl ?_
    show Steps p.tables e below (T26.setTop (mkF m 166 #[.val (.int p1), .val (.int p2), .val (.int p3), .val (.int p4), .val (.int p5), .val (.int p6), .val (.ref b1), .val (.int ((1 : Int32) <<< ((p4 &&& (31 : Int32)) &&& 31))), .val (.int (m0_5_0 p1 p4)), .val (.int (m0_10_0 p1 p4)), .val (.int (f4 p2 p1)), .val (.int (f4 p3 p1)), .val (.int (m0_20_0 p1 p2 p3)), .val (.int (m0_24_0 p1)), .val (.int (m0_30_0 p1)), .unset] [(.int (p2 &&& p1)), (.ref b1), (.int (f4 p2 p1))])) _
    refine st32.trans ?_
    exact k)
  have pre34 : ∀ t, Steps p.tables e below (T32.setTop (mkF m 177 #[.val (.int p1), .val (.int p2), .val (.int p3), .val (.int p4), .val (.int p5), .val (.int p6), .val (.ref b1), .val (.int ((1 : Int32) <<< ((p4 &&& (31 : Int32)) &&& 31))), .val (.int (m0_5_0 p1 p4)), .val (.int (m0_10_0 p1 p4)), .val (.int (f4 p2 p1)), .val (.int (f4 p3 p1)), .val (.int (m0_20_0 p1 p2 p3)), .val (.int (m0_24_0 p1)), .val (.int (m0_30_0 p1)), .unset] [(.int (m0_34_0 p1 p2))])) t → Steps p.tables e below (s₁.setTop (entryFrame m #[(.int p1), (.int p2), (.int p3), (.int p4), (.int p5), (.int p6)] maxLocals)) t := by
    intro t k
    by_cases hc35 : (f4 p2 p1) = (f4 (p2 &&& p1) p1)
    · rw [show (m0_34_0 p1 p2) = (1 : Int32) from by first | (rw [m0_34_0, if_pos hc35]; done) | (simp only [m0_34_0, if_pos hc35]; done) | rfl] at k
      refine pre33 t ?_
      show Steps p.tables e below (T32.setTop (mkF m 169 #[.val (.int p1), .val (.int p2), .val (.int p3), .val (.int p4), .val (.int p5), .val (.int p6), .val (.ref b1), .val (.int ((1 : Int32) <<< ((p4 &&& (31 : Int32)) &&& 31))), .val (.int (m0_5_0 p1 p4)), .val (.int (m0_10_0 p1 p4)), .val (.int (f4 p2 p1)), .val (.int (f4 p3 p1)), .val (.int (m0_20_0 p1 p2 p3)), .val (.int (m0_24_0 p1)), .val (.int (m0_30_0 p1)), .unset] [(.int (f4 (p2 &&& p1) p1)), (.int (f4 p2 p1))])) _
      refine XS.icmpNo X32.here hx rfl (hb hby at_169) rfl (teq hc35).2 ?_
      show Steps p.tables e below (T32.setTop (mkF m 172 #[.val (.int p1), .val (.int p2), .val (.int p3), .val (.int p4), .val (.int p5), .val (.int p6), .val (.ref b1), .val (.int ((1 : Int32) <<< ((p4 &&& (31 : Int32)) &&& 31))), .val (.int (m0_5_0 p1 p4)), .val (.int (m0_10_0 p1 p4)), .val (.int (f4 p2 p1)), .val (.int (f4 p3 p1)), .val (.int (m0_20_0 p1 p2 p3)), .val (.int (m0_24_0 p1)), .val (.int (m0_30_0 p1)), .unset] [])) _
      refine XS.iconst X32.here hx rfl (hb hby at_172) ?_
      show Steps p.tables e below (T32.setTop (mkF m 173 #[.val (.int p1), .val (.int p2), .val (.int p3), .val (.int p4), .val (.int p5), .val (.int p6), .val (.ref b1), .val (.int ((1 : Int32) <<< ((p4 &&& (31 : Int32)) &&& 31))), .val (.int (m0_5_0 p1 p4)), .val (.int (m0_10_0 p1 p4)), .val (.int (f4 p2 p1)), .val (.int (f4 p3 p1)), .val (.int (m0_20_0 p1 p2 p3)), .val (.int (m0_24_0 p1)), .val (.int (m0_30_0 p1)), .unset] [(.int (1 : Int32))])) _
      refine XS.goto X32.here hx rfl (pc0 := 173) (pc' := 177) rfl (hb hby at_173) (by decide) (by decide) ?_
      exact k
    · rw [show (m0_34_0 p1 p2) = (0 : Int32) from by first | (rw [m0_34_0, if_neg hc35]; done) | (simp only [m0_34_0, if_neg hc35]; done) | rfl] at k
      refine pre33 t ?_
      show Steps p.tables e below (T32.setTop (mkF m 169 #[.val (.int p1), .val (.int p2), .val (.int p3), .val (.int p4), .val (.int p5), .val (.int p6), .val (.ref b1), .val (.int ((1 : Int32) <<< ((p4 &&& (31 : Int32)) &&& 31))), .val (.int (m0_5_0 p1 p4)), .val (.int (m0_10_0 p1 p4)), .val (.int (f4 p2 p1)), .val (.int (f4 p3 p1)), .val (.int (m0_20_0 p1 p2 p3)), .val (.int (m0_24_0 p1)), .val (.int (m0_30_0 p1)), .unset] [(.int (f4 (p2 &&& p1) p1)), (.int (f4 p2 p1))])) _
      refine XS.icmpYes X32.here hx rfl (pc0 := 169) (pc' := 176) rfl (hb hby at_169) rfl (feq hc35).2 (by decide) (by decide) ?_
      show Steps p.tables e below (T32.setTop (mkF m 176 #[.val (.int p1), .val (.int p2), .val (.int p3), .val (.int p4), .val (.int p5), .val (.int p6), .val (.ref b1), .val (.int ((1 : Int32) <<< ((p4 &&& (31 : Int32)) &&& 31))), .val (.int (m0_5_0 p1 p4)), .val (.int (m0_10_0 p1 p4)), .val (.int (f4 p2 p1)), .val (.int (f4 p3 p1)), .val (.int (m0_20_0 p1 p2 p3)), .val (.int (m0_24_0 p1)), .val (.int (m0_30_0 p1)), .unset] [])) _
      refine XS.iconst X32.here hx rfl (hb hby at_176) ?_
      exact k
  have pre36 : ∀ t, Steps p.tables e below (T32.setTop (mkF m 181 #[.val (.int p1), .val (.int p2), .val (.int p3), .val (.int p4), .val (.int p5), .val (.int p6), .val (.ref b1), .val (.int ((1 : Int32) <<< ((p4 &&& (31 : Int32)) &&& 31))), .val (.int (m0_5_0 p1 p4)), .val (.int (m0_10_0 p1 p4)), .val (.int (f4 p2 p1)), .val (.int (f4 p3 p1)), .val (.int (m0_20_0 p1 p2 p3)), .val (.int (m0_24_0 p1)), .val (.int (m0_30_0 p1)), .val (.int (m0_34_0 p1 p2))] [(.int (m0_10_0 p1 p4))])) t → Steps p.tables e below (s₁.setTop (entryFrame m #[(.int p1), (.int p2), (.int p3), (.int p4), (.int p5), (.int p6)] maxLocals)) t := fun t k => pre34 t (by
    show Steps p.tables e below (T32.setTop (mkF m 177 #[.val (.int p1), .val (.int p2), .val (.int p3), .val (.int p4), .val (.int p5), .val (.int p6), .val (.ref b1), .val (.int ((1 : Int32) <<< ((p4 &&& (31 : Int32)) &&& 31))), .val (.int (m0_5_0 p1 p4)), .val (.int (m0_10_0 p1 p4)), .val (.int (f4 p2 p1)), .val (.int (f4 p3 p1)), .val (.int (m0_20_0 p1 p2 p3)), .val (.int (m0_24_0 p1)), .val (.int (m0_30_0 p1)), .unset] [(.int (m0_34_0 p1 p2))])) _
    refine XS.istore X32.here hx rfl (hb hby at_177) rfl (l' := #[.val (.int p1), .val (.int p2), .val (.int p3), .val (.int p4), .val (.int p5), .val (.int p6), .val (.ref b1), .val (.int ((1 : Int32) <<< ((p4 &&& (31 : Int32)) &&& 31))), .val (.int (m0_5_0 p1 p4)), .val (.int (m0_10_0 p1 p4)), .val (.int (f4 p2 p1)), .val (.int (f4 p3 p1)), .val (.int (m0_20_0 p1 p2 p3)), .val (.int (m0_24_0 p1)), .val (.int (m0_30_0 p1)), .val (.int (m0_34_0 p1 p2))]) rfl ?_
    show Steps p.tables e below (T32.setTop (mkF m 179 #[.val (.int p1), .val (.int p2), .val (.int p3), .val (.int p4), .val (.int p5), .val (.int p6), .val (.ref b1), .val (.int ((1 : Int32) <<< ((p4 &&& (31 : Int32)) &&& 31))), .val (.int (m0_5_0 p1 p4)), .val (.int (m0_10_0 p1 p4)), .val (.int (f4 p2 p1)), .val (.int (f4 p3 p1)), .val (.int (m0_20_0 p1 p2 p3)), .val (.int (m0_24_0 p1)), .val (.int (m0_30_0 p1)), .val (.int (m0_34_0 p1 p2))] [])) _
    refine XS.iload X32.here hx rfl (hb hby at_179) rfl ?_
    exact k)
  by_cases hc37 : (m0_10_0 p1 p4) = (0 : Int32)
  · obtain ⟨fs, hr, hrun, hended, hW, hsame⟩ := X32.leave (v := some (.int (0 : Int32))) (fun h => by rw [Bd.returns] at h; cases h)
    refine ⟨_, _, pre36 _ ?_, hrun, hended, _, _, rfl, ?_, ⟨_, rfl⟩, hW, hsame.mono (by decide) (by decide)⟩
    · show Steps p.tables e below (T32.setTop (mkF m 181 #[.val (.int p1), .val (.int p2), .val (.int p3), .val (.int p4), .val (.int p5), .val (.int p6), .val (.ref b1), .val (.int ((1 : Int32) <<< ((p4 &&& (31 : Int32)) &&& 31))), .val (.int (m0_5_0 p1 p4)), .val (.int (m0_10_0 p1 p4)), .val (.int (f4 p2 p1)), .val (.int (f4 p3 p1)), .val (.int (m0_20_0 p1 p2 p3)), .val (.int (m0_24_0 p1)), .val (.int (m0_30_0 p1)), .val (.int (m0_34_0 p1 p2))] [(.int (m0_10_0 p1 p4))])) _
      refine XS.ifYes X32.here hx rfl (pc0 := 181) (pc' := 208) rfl (hb hby at_181) rfl ((if0 _ _).trans (teq hc37).1) (by decide) (by decide) ?_
      show Steps p.tables e below (T32.setTop (mkF m 208 #[.val (.int p1), .val (.int p2), .val (.int p3), .val (.int p4), .val (.int p5), .val (.int p6), .val (.ref b1), .val (.int ((1 : Int32) <<< ((p4 &&& (31 : Int32)) &&& 31))), .val (.int (m0_5_0 p1 p4)), .val (.int (m0_10_0 p1 p4)), .val (.int (f4 p2 p1)), .val (.int (f4 p3 p1)), .val (.int (m0_20_0 p1 p2 p3)), .val (.int (m0_24_0 p1)), .val (.int (m0_30_0 p1)), .val (.int (m0_34_0 p1 p2))] [])) _
      refine XS.iconst X32.here hx rfl (hb hby at_208) ?_
      show Steps p.tables e below (T32.setTop (mkF m 209 #[.val (.int p1), .val (.int p2), .val (.int p3), .val (.int p4), .val (.int p5), .val (.int p6), .val (.ref b1), .val (.int ((1 : Int32) <<< ((p4 &&& (31 : Int32)) &&& 31))), .val (.int (m0_5_0 p1 p4)), .val (.int (m0_10_0 p1 p4)), .val (.int (f4 p2 p1)), .val (.int (f4 p3 p1)), .val (.int (m0_20_0 p1 p2 p3)), .val (.int (m0_24_0 p1)), .val (.int (m0_30_0 p1)), .val (.int (m0_34_0 p1 p2))] [(.int (0 : Int32))])) _
      exact retN X32 hx (t := .boolean) Bd.returns (by simp) (hb hby at_209) hr
    · show Q0 Z p1 p2 p3 p4 p5 p6 h0 n0 _ T32.heap _
      rw [e32]
      exact ⟨by rw [show (f0 p1 p2 p3 p4) = (0 : Int32) from by first | (rw [f0, if_pos hc37]; done) | (simp only [f0, if_pos hc37]; done) | rfl], N32⟩
  · have pre39 : ∀ t, Steps p.tables e below (T32.setTop (mkF m 186 #[.val (.int p1), .val (.int p2), .val (.int p3), .val (.int p4), .val (.int p5), .val (.int p6), .val (.ref b1), .val (.int ((1 : Int32) <<< ((p4 &&& (31 : Int32)) &&& 31))), .val (.int (m0_5_0 p1 p4)), .val (.int (m0_10_0 p1 p4)), .val (.int (f4 p2 p1)), .val (.int (f4 p3 p1)), .val (.int (m0_20_0 p1 p2 p3)), .val (.int (m0_24_0 p1)), .val (.int (m0_30_0 p1)), .val (.int (m0_34_0 p1 p2))] [(.int (m0_20_0 p1 p2 p3))])) t → Steps p.tables e below (s₁.setTop (entryFrame m #[(.int p1), (.int p2), (.int p3), (.int p4), (.int p5), (.int p6)] maxLocals)) t := fun t k => pre36 t (by
      show Steps p.tables e below (T32.setTop (mkF m 181 #[.val (.int p1), .val (.int p2), .val (.int p3), .val (.int p4), .val (.int p5), .val (.int p6), .val (.ref b1), .val (.int ((1 : Int32) <<< ((p4 &&& (31 : Int32)) &&& 31))), .val (.int (m0_5_0 p1 p4)), .val (.int (m0_10_0 p1 p4)), .val (.int (f4 p2 p1)), .val (.int (f4 p3 p1)), .val (.int (m0_20_0 p1 p2 p3)), .val (.int (m0_24_0 p1)), .val (.int (m0_30_0 p1)), .val (.int (m0_34_0 p1 p2))] [(.int (m0_10_0 p1 p4))])) _
      refine XS.ifNo X32.here hx rfl (hb hby at_181) rfl ((if0 _ _).trans (feq hc37).1) ?_
      show Steps p.tables e below (T32.setTop (mkF m 184 #[.val (.int p1), .val (.int p2), .val (.int p3), .val (.int p4), .val (.int p5), .val (.int p6), .val (.ref b1), .val (.int ((1 : Int32) <<< ((p4 &&& (31 : Int32)) &&& 31))), .val (.int (m0_5_0 p1 p4)), .val (.int (m0_10_0 p1 p4)), .val (.int (f4 p2 p1)), .val (.int (f4 p3 p1)), .val (.int (m0_20_0 p1 p2 p3)), .val (.int (m0_24_0 p1)), .val (.int (m0_30_0 p1)), .val (.int (m0_34_0 p1 p2))] [])) _
      refine XS.iload X32.here hx rfl (hb hby at_184) rfl ?_
      exact k)
    by_cases hc40 : (m0_20_0 p1 p2 p3) = (0 : Int32)
    · obtain ⟨fs, hr, hrun, hended, hW, hsame⟩ := X32.leave (v := some (.int (0 : Int32))) (fun h => by rw [Bd.returns] at h; cases h)
      refine ⟨_, _, pre39 _ ?_, hrun, hended, _, _, rfl, ?_, ⟨_, rfl⟩, hW, hsame.mono (by decide) (by decide)⟩
      · show Steps p.tables e below (T32.setTop (mkF m 186 #[.val (.int p1), .val (.int p2), .val (.int p3), .val (.int p4), .val (.int p5), .val (.int p6), .val (.ref b1), .val (.int ((1 : Int32) <<< ((p4 &&& (31 : Int32)) &&& 31))), .val (.int (m0_5_0 p1 p4)), .val (.int (m0_10_0 p1 p4)), .val (.int (f4 p2 p1)), .val (.int (f4 p3 p1)), .val (.int (m0_20_0 p1 p2 p3)), .val (.int (m0_24_0 p1)), .val (.int (m0_30_0 p1)), .val (.int (m0_34_0 p1 p2))] [(.int (m0_20_0 p1 p2 p3))])) _
        refine XS.ifYes X32.here hx rfl (pc0 := 186) (pc' := 208) rfl (hb hby at_186) rfl ((if0 _ _).trans (teq hc40).1) (by decide) (by decide) ?_
        show Steps p.tables e below (T32.setTop (mkF m 208 #[.val (.int p1), .val (.int p2), .val (.int p3), .val (.int p4), .val (.int p5), .val (.int p6), .val (.ref b1), .val (.int ((1 : Int32) <<< ((p4 &&& (31 : Int32)) &&& 31))), .val (.int (m0_5_0 p1 p4)), .val (.int (m0_10_0 p1 p4)), .val (.int (f4 p2 p1)), .val (.int (f4 p3 p1)), .val (.int (m0_20_0 p1 p2 p3)), .val (.int (m0_24_0 p1)), .val (.int (m0_30_0 p1)), .val (.int (m0_34_0 p1 p2))] [])) _
        refine XS.iconst X32.here hx rfl (hb hby at_208) ?_
        show Steps p.tables e below (T32.setTop (mkF m 209 #[.val (.int p1), .val (.int p2), .val (.int p3), .val (.int p4), .val (.int p5), .val (.int p6), .val (.ref b1), .val (.int ((1 : Int32) <<< ((p4 &&& (31 : Int32)) &&& 31))), .val (.int (m0_5_0 p1 p4)), .val (.int (m0_10_0 p1 p4)), .val (.int (f4 p2 p1)), .val (.int (f4 p3 p1)), .val (.int (m0_20_0 p1 p2 p3)), .val (.int (m0_24_0 p1)), .val (.int (m0_30_0 p1)), .val (.int (m0_34_0 p1 p2))] [(.int (0 : Int32))])) _
        exact retN X32 hx (t := .boolean) Bd.returns (by simp) (hb hby at_209) hr
      · show Q0 Z p1 p2 p3 p4 p5 p6 h0 n0 _ T32.heap _
        rw [e32]
        exact ⟨by rw [show (f0 p1 p2 p3 p4) = (0 : Int32) from by first | (rw [f0, if_neg hc37, if_pos hc40]; done) | (simp only [f0, if_neg hc37, if_pos hc40]; done) | rfl], N32⟩
    · have pre42 : ∀ t, Steps p.tables e below (T32.setTop (mkF m 191 #[.val (.int p1), .val (.int p2), .val (.int p3), .val (.int p4), .val (.int p5), .val (.int p6), .val (.ref b1), .val (.int ((1 : Int32) <<< ((p4 &&& (31 : Int32)) &&& 31))), .val (.int (m0_5_0 p1 p4)), .val (.int (m0_10_0 p1 p4)), .val (.int (f4 p2 p1)), .val (.int (f4 p3 p1)), .val (.int (m0_20_0 p1 p2 p3)), .val (.int (m0_24_0 p1)), .val (.int (m0_30_0 p1)), .val (.int (m0_34_0 p1 p2))] [(.int (m0_24_0 p1))])) t → Steps p.tables e below (s₁.setTop (entryFrame m #[(.int p1), (.int p2), (.int p3), (.int p4), (.int p5), (.int p6)] maxLocals)) t := fun t k => pre39 t (by
        show Steps p.tables e below (T32.setTop (mkF m 186 #[.val (.int p1), .val (.int p2), .val (.int p3), .val (.int p4), .val (.int p5), .val (.int p6), .val (.ref b1), .val (.int ((1 : Int32) <<< ((p4 &&& (31 : Int32)) &&& 31))), .val (.int (m0_5_0 p1 p4)), .val (.int (m0_10_0 p1 p4)), .val (.int (f4 p2 p1)), .val (.int (f4 p3 p1)), .val (.int (m0_20_0 p1 p2 p3)), .val (.int (m0_24_0 p1)), .val (.int (m0_30_0 p1)), .val (.int (m0_34_0 p1 p2))] [(.int (m0_20_0 p1 p2 p3))])) _
        refine XS.ifNo X32.here hx rfl (hb hby at_186) rfl ((if0 _ _).trans (feq hc40).1) ?_
        show Steps p.tables e below (T32.setTop (mkF m 189 #[.val (.int p1), .val (.int p2), .val (.int p3), .val (.int p4), .val (.int p5), .val (.int p6), .val (.ref b1), .val (.int ((1 : Int32) <<< ((p4 &&& (31 : Int32)) &&& 31))), .val (.int (m0_5_0 p1 p4)), .val (.int (m0_10_0 p1 p4)), .val (.int (f4 p2 p1)), .val (.int (f4 p3 p1)), .val (.int (m0_20_0 p1 p2 p3)), .val (.int (m0_24_0 p1)), .val (.int (m0_30_0 p1)), .val (.int (m0_34_0 p1 p2))] [])) _
        refine XS.iload X32.here hx rfl (hb hby at_189) rfl ?_
        exact k)
      by_cases hc43 : (m0_24_0 p1) = (0 : Int32)
      · obtain ⟨fs, hr, hrun, hended, hW, hsame⟩ := X32.leave (v := some (.int (0 : Int32))) (fun h => by rw [Bd.returns] at h; cases h)
        refine ⟨_, _, pre42 _ ?_, hrun, hended, _, _, rfl, ?_, ⟨_, rfl⟩, hW, hsame.mono (by decide) (by decide)⟩
        · show Steps p.tables e below (T32.setTop (mkF m 191 #[.val (.int p1), .val (.int p2), .val (.int p3), .val (.int p4), .val (.int p5), .val (.int p6), .val (.ref b1), .val (.int ((1 : Int32) <<< ((p4 &&& (31 : Int32)) &&& 31))), .val (.int (m0_5_0 p1 p4)), .val (.int (m0_10_0 p1 p4)), .val (.int (f4 p2 p1)), .val (.int (f4 p3 p1)), .val (.int (m0_20_0 p1 p2 p3)), .val (.int (m0_24_0 p1)), .val (.int (m0_30_0 p1)), .val (.int (m0_34_0 p1 p2))] [(.int (m0_24_0 p1))])) _
          refine XS.ifYes X32.here hx rfl (pc0 := 191) (pc' := 208) rfl (hb hby at_191) rfl ((if0 _ _).trans (teq hc43).1) (by decide) (by decide) ?_
          show Steps p.tables e below (T32.setTop (mkF m 208 #[.val (.int p1), .val (.int p2), .val (.int p3), .val (.int p4), .val (.int p5), .val (.int p6), .val (.ref b1), .val (.int ((1 : Int32) <<< ((p4 &&& (31 : Int32)) &&& 31))), .val (.int (m0_5_0 p1 p4)), .val (.int (m0_10_0 p1 p4)), .val (.int (f4 p2 p1)), .val (.int (f4 p3 p1)), .val (.int (m0_20_0 p1 p2 p3)), .val (.int (m0_24_0 p1)), .val (.int (m0_30_0 p1)), .val (.int (m0_34_0 p1 p2))] [])) _
          refine XS.iconst X32.here hx rfl (hb hby at_208) ?_
          show Steps p.tables e below (T32.setTop (mkF m 209 #[.val (.int p1), .val (.int p2), .val (.int p3), .val (.int p4), .val (.int p5), .val (.int p6), .val (.ref b1), .val (.int ((1 : Int32) <<< ((p4 &&& (31 : Int32)) &&& 31))), .val (.int (m0_5_0 p1 p4)), .val (.int (m0_10_0 p1 p4)), .val (.int (f4 p2 p1)), .val (.int (f4 p3 p1)), .val (.int (m0_20_0 p1 p2 p3)), .val (.int (m0_24_0 p1)), .val (.int (m0_30_0 p1)), .val (.int (m0_34_0 p1 p2))] [(.int (0 : Int32))])) _
          exact retN X32 hx (t := .boolean) Bd.returns (by simp) (hb hby at_209) hr
        · show Q0 Z p1 p2 p3 p4 p5 p6 h0 n0 _ T32.heap _
          rw [e32]
          exact ⟨by rw [show (f0 p1 p2 p3 p4) = (0 : Int32) from by first | (rw [f0, if_neg hc37, if_neg hc40, if_pos hc43]; done) | (simp only [f0, if_neg hc37, if_neg hc40, if_pos hc43]; done) | rfl], N32⟩
      · have pre45 : ∀ t, Steps p.tables e below (T32.setTop (mkF m 196 #[.val (.int p1), .val (.int p2), .val (.int p3), .val (.int p4), .val (.int p5), .val (.int p6), .val (.ref b1), .val (.int ((1 : Int32) <<< ((p4 &&& (31 : Int32)) &&& 31))), .val (.int (m0_5_0 p1 p4)), .val (.int (m0_10_0 p1 p4)), .val (.int (f4 p2 p1)), .val (.int (f4 p3 p1)), .val (.int (m0_20_0 p1 p2 p3)), .val (.int (m0_24_0 p1)), .val (.int (m0_30_0 p1)), .val (.int (m0_34_0 p1 p2))] [(.int (m0_30_0 p1))])) t → Steps p.tables e below (s₁.setTop (entryFrame m #[(.int p1), (.int p2), (.int p3), (.int p4), (.int p5), (.int p6)] maxLocals)) t := fun t k => pre42 t (by
          show Steps p.tables e below (T32.setTop (mkF m 191 #[.val (.int p1), .val (.int p2), .val (.int p3), .val (.int p4), .val (.int p5), .val (.int p6), .val (.ref b1), .val (.int ((1 : Int32) <<< ((p4 &&& (31 : Int32)) &&& 31))), .val (.int (m0_5_0 p1 p4)), .val (.int (m0_10_0 p1 p4)), .val (.int (f4 p2 p1)), .val (.int (f4 p3 p1)), .val (.int (m0_20_0 p1 p2 p3)), .val (.int (m0_24_0 p1)), .val (.int (m0_30_0 p1)), .val (.int (m0_34_0 p1 p2))] [(.int (m0_24_0 p1))])) _
          refine XS.ifNo X32.here hx rfl (hb hby at_191) rfl ((if0 _ _).trans (feq hc43).1) ?_
          show Steps p.tables e below (T32.setTop (mkF m 194 #[.val (.int p1), .val (.int p2), .val (.int p3), .val (.int p4), .val (.int p5), .val (.int p6), .val (.ref b1), .val (.int ((1 : Int32) <<< ((p4 &&& (31 : Int32)) &&& 31))), .val (.int (m0_5_0 p1 p4)), .val (.int (m0_10_0 p1 p4)), .val (.int (f4 p2 p1)), .val (.int (f4 p3 p1)), .val (.int (m0_20_0 p1 p2 p3)), .val (.int (m0_24_0 p1)), .val (.int (m0_30_0 p1)), .val (.int (m0_34_0 p1 p2))] [])) _
          refine XS.iload X32.here hx rfl (hb hby at_194) rfl ?_
          exact k)
        by_cases hc46 : (m0_30_0 p1) = (0 : Int32)
        · obtain ⟨fs, hr, hrun, hended, hW, hsame⟩ := X32.leave (v := some (.int (0 : Int32))) (fun h => by rw [Bd.returns] at h; cases h)
          refine ⟨_, _, pre45 _ ?_, hrun, hended, _, _, rfl, ?_, ⟨_, rfl⟩, hW, hsame.mono (by decide) (by decide)⟩
          · show Steps p.tables e below (T32.setTop (mkF m 196 #[.val (.int p1), .val (.int p2), .val (.int p3), .val (.int p4), .val (.int p5), .val (.int p6), .val (.ref b1), .val (.int ((1 : Int32) <<< ((p4 &&& (31 : Int32)) &&& 31))), .val (.int (m0_5_0 p1 p4)), .val (.int (m0_10_0 p1 p4)), .val (.int (f4 p2 p1)), .val (.int (f4 p3 p1)), .val (.int (m0_20_0 p1 p2 p3)), .val (.int (m0_24_0 p1)), .val (.int (m0_30_0 p1)), .val (.int (m0_34_0 p1 p2))] [(.int (m0_30_0 p1))])) _
            refine XS.ifYes X32.here hx rfl (pc0 := 196) (pc' := 208) rfl (hb hby at_196) rfl ((if0 _ _).trans (teq hc46).1) (by decide) (by decide) ?_
            show Steps p.tables e below (T32.setTop (mkF m 208 #[.val (.int p1), .val (.int p2), .val (.int p3), .val (.int p4), .val (.int p5), .val (.int p6), .val (.ref b1), .val (.int ((1 : Int32) <<< ((p4 &&& (31 : Int32)) &&& 31))), .val (.int (m0_5_0 p1 p4)), .val (.int (m0_10_0 p1 p4)), .val (.int (f4 p2 p1)), .val (.int (f4 p3 p1)), .val (.int (m0_20_0 p1 p2 p3)), .val (.int (m0_24_0 p1)), .val (.int (m0_30_0 p1)), .val (.int (m0_34_0 p1 p2))] [])) _
            refine XS.iconst X32.here hx rfl (hb hby at_208) ?_
            show Steps p.tables e below (T32.setTop (mkF m 209 #[.val (.int p1), .val (.int p2), .val (.int p3), .val (.int p4), .val (.int p5), .val (.int p6), .val (.ref b1), .val (.int ((1 : Int32) <<< ((p4 &&& (31 : Int32)) &&& 31))), .val (.int (m0_5_0 p1 p4)), .val (.int (m0_10_0 p1 p4)), .val (.int (f4 p2 p1)), .val (.int (f4 p3 p1)), .val (.int (m0_20_0 p1 p2 p3)), .val (.int (m0_24_0 p1)), .val (.int (m0_30_0 p1)), .val (.int (m0_34_0 p1 p2))] [(.int (0 : Int32))])) _
            exact retN X32 hx (t := .boolean) Bd.returns (by simp) (hb hby at_209) hr
          · show Q0 Z p1 p2 p3 p4 p5 p6 h0 n0 _ T32.heap _
            rw [e32]
            exact ⟨by rw [show (f0 p1 p2 p3 p4) = (0 : Int32) from by first | (rw [f0, if_neg hc37, if_neg hc40, if_neg hc43, if_pos hc46]; done) | (simp only [f0, if_neg hc37, if_neg hc40, if_neg hc43, if_pos hc46]; done) | rfl], N32⟩
        · have pre48 : ∀ t, Steps p.tables e below (T32.setTop (mkF m 201 #[.val (.int p1), .val (.int p2), .val (.int p3), .val (.int p4), .val (.int p5), .val (.int p6), .val (.ref b1), .val (.int ((1 : Int32) <<< ((p4 &&& (31 : Int32)) &&& 31))), .val (.int (m0_5_0 p1 p4)), .val (.int (m0_10_0 p1 p4)), .val (.int (f4 p2 p1)), .val (.int (f4 p3 p1)), .val (.int (m0_20_0 p1 p2 p3)), .val (.int (m0_24_0 p1)), .val (.int (m0_30_0 p1)), .val (.int (m0_34_0 p1 p2))] [(.int (m0_34_0 p1 p2))])) t → Steps p.tables e below (s₁.setTop (entryFrame m #[(.int p1), (.int p2), (.int p3), (.int p4), (.int p5), (.int p6)] maxLocals)) t := fun t k => pre45 t (by
            show Steps p.tables e below (T32.setTop (mkF m 196 #[.val (.int p1), .val (.int p2), .val (.int p3), .val (.int p4), .val (.int p5), .val (.int p6), .val (.ref b1), .val (.int ((1 : Int32) <<< ((p4 &&& (31 : Int32)) &&& 31))), .val (.int (m0_5_0 p1 p4)), .val (.int (m0_10_0 p1 p4)), .val (.int (f4 p2 p1)), .val (.int (f4 p3 p1)), .val (.int (m0_20_0 p1 p2 p3)), .val (.int (m0_24_0 p1)), .val (.int (m0_30_0 p1)), .val (.int (m0_34_0 p1 p2))] [(.int (m0_30_0 p1))])) _
            refine XS.ifNo X32.here hx rfl (hb hby at_196) rfl ((if0 _ _).trans (feq hc46).1) ?_
            show Steps p.tables e below (T32.setTop (mkF m 199 #[.val (.int p1), .val (.int p2), .val (.int p3), .val (.int p4), .val (.int p5), .val (.int p6), .val (.ref b1), .val (.int ((1 : Int32) <<< ((p4 &&& (31 : Int32)) &&& 31))), .val (.int (m0_5_0 p1 p4)), .val (.int (m0_10_0 p1 p4)), .val (.int (f4 p2 p1)), .val (.int (f4 p3 p1)), .val (.int (m0_20_0 p1 p2 p3)), .val (.int (m0_24_0 p1)), .val (.int (m0_30_0 p1)), .val (.int (m0_34_0 p1 p2))] [])) _
            refine XS.iload X32.here hx rfl (hb hby at_199) rfl ?_
            exact k)
          by_cases hc49 : (m0_34_0 p1 p2) = (0 : Int32)
          · obtain ⟨fs, hr, hrun, hended, hW, hsame⟩ := X32.leave (v := some (.int (0 : Int32))) (fun h => by rw [Bd.returns] at h; cases h)
            refine ⟨_, _, pre48 _ ?_, hrun, hended, _, _, rfl, ?_, ⟨_, rfl⟩, hW, hsame.mono (by decide) (by decide)⟩
            · show Steps p.tables e below (T32.setTop (mkF m 201 #[.val (.int p1), .val (.int p2), .val (.int p3), .val (.int p4), .val (.int p5), .val (.int p6), .val (.ref b1), .val (.int ((1 : Int32) <<< ((p4 &&& (31 : Int32)) &&& 31))), .val (.int (m0_5_0 p1 p4)), .val (.int (m0_10_0 p1 p4)), .val (.int (f4 p2 p1)), .val (.int (f4 p3 p1)), .val (.int (m0_20_0 p1 p2 p3)), .val (.int (m0_24_0 p1)), .val (.int (m0_30_0 p1)), .val (.int (m0_34_0 p1 p2))] [(.int (m0_34_0 p1 p2))])) _
              refine XS.ifYes X32.here hx rfl (pc0 := 201) (pc' := 208) rfl (hb hby at_201) rfl ((if0 _ _).trans (teq hc49).1) (by decide) (by decide) ?_
              show Steps p.tables e below (T32.setTop (mkF m 208 #[.val (.int p1), .val (.int p2), .val (.int p3), .val (.int p4), .val (.int p5), .val (.int p6), .val (.ref b1), .val (.int ((1 : Int32) <<< ((p4 &&& (31 : Int32)) &&& 31))), .val (.int (m0_5_0 p1 p4)), .val (.int (m0_10_0 p1 p4)), .val (.int (f4 p2 p1)), .val (.int (f4 p3 p1)), .val (.int (m0_20_0 p1 p2 p3)), .val (.int (m0_24_0 p1)), .val (.int (m0_30_0 p1)), .val (.int (m0_34_0 p1 p2))] [])) _
              refine XS.iconst X32.here hx rfl (hb hby at_208) ?_
              show Steps p.tables e below (T32.setTop (mkF m 209 #[.val (.int p1), .val (.int p2), .val (.int p3), .val (.int p4), .val (.int p5), .val (.int p6), .val (.ref b1), .val (.int ((1 : Int32) <<< ((p4 &&& (31 : Int32)) &&& 31))), .val (.int (m0_5_0 p1 p4)), .val (.int (m0_10_0 p1 p4)), .val (.int (f4 p2 p1)), .val (.int (f4 p3 p1)), .val (.int (m0_20_0 p1 p2 p3)), .val (.int (m0_24_0 p1)), .val (.int (m0_30_0 p1)), .val (.int (m0_34_0 p1 p2))] [(.int (0 : Int32))])) _
              exact retN X32 hx (t := .boolean) Bd.returns (by simp) (hb hby at_209) hr
            · show Q0 Z p1 p2 p3 p4 p5 p6 h0 n0 _ T32.heap _
              rw [e32]
              exact ⟨by rw [show (f0 p1 p2 p3 p4) = (0 : Int32) from by first | (rw [f0, if_neg hc37, if_neg hc40, if_neg hc43, if_neg hc46, if_pos hc49]; done) | (simp only [f0, if_neg hc37, if_neg hc40, if_neg hc43, if_neg hc46, if_pos hc49]; done) | rfl], N32⟩
          · obtain ⟨fs, hr, hrun, hended, hW, hsame⟩ := X32.leave (v := some (.int (1 : Int32))) (fun h => by rw [Bd.returns] at h; cases h)
            refine ⟨_, _, pre48 _ ?_, hrun, hended, _, _, rfl, ?_, ⟨_, rfl⟩, hW, hsame.mono (by decide) (by decide)⟩
            · show Steps p.tables e below (T32.setTop (mkF m 201 #[.val (.int p1), .val (.int p2), .val (.int p3), .val (.int p4), .val (.int p5), .val (.int p6), .val (.ref b1), .val (.int ((1 : Int32) <<< ((p4 &&& (31 : Int32)) &&& 31))), .val (.int (m0_5_0 p1 p4)), .val (.int (m0_10_0 p1 p4)), .val (.int (f4 p2 p1)), .val (.int (f4 p3 p1)), .val (.int (m0_20_0 p1 p2 p3)), .val (.int (m0_24_0 p1)), .val (.int (m0_30_0 p1)), .val (.int (m0_34_0 p1 p2))] [(.int (m0_34_0 p1 p2))])) _
              refine XS.ifNo X32.here hx rfl (hb hby at_201) rfl ((if0 _ _).trans (feq hc49).1) ?_
              show Steps p.tables e below (T32.setTop (mkF m 204 #[.val (.int p1), .val (.int p2), .val (.int p3), .val (.int p4), .val (.int p5), .val (.int p6), .val (.ref b1), .val (.int ((1 : Int32) <<< ((p4 &&& (31 : Int32)) &&& 31))), .val (.int (m0_5_0 p1 p4)), .val (.int (m0_10_0 p1 p4)), .val (.int (f4 p2 p1)), .val (.int (f4 p3 p1)), .val (.int (m0_20_0 p1 p2 p3)), .val (.int (m0_24_0 p1)), .val (.int (m0_30_0 p1)), .val (.int (m0_34_0 p1 p2))] [])) _
              refine XS.iconst X32.here hx rfl (hb hby at_204) ?_
              show Steps p.tables e below (T32.setTop (mkF m 205 #[.val (.int p1), .val (.int p2), .val (.int p3), .val (.int p4), .val (.int p5), .val (.int p6), .val (.ref b1), .val (.int ((1 : Int32) <<< ((p4 &&& (31 : Int32)) &&& 31))), .val (.int (m0_5_0 p1 p4)), .val (.int (m0_10_0 p1 p4)), .val (.int (f4 p2 p1)), .val (.int (f4 p3 p1)), .val (.int (m0_20_0 p1 p2 p3)), .val (.int (m0_24_0 p1)), .val (.int (m0_30_0 p1)), .val (.int (m0_34_0 p1 p2))] [(.int (1 : Int32))])) _
              refine XS.goto X32.here hx rfl (pc0 := 205) (pc' := 209) rfl (hb hby at_205) (by decide) (by decide) ?_
              show Steps p.tables e below (T32.setTop (mkF m 209 #[.val (.int p1), .val (.int p2), .val (.int p3), .val (.int p4), .val (.int p5), .val (.int p6), .val (.ref b1), .val (.int ((1 : Int32) <<< ((p4 &&& (31 : Int32)) &&& 31))), .val (.int (m0_5_0 p1 p4)), .val (.int (m0_10_0 p1 p4)), .val (.int (f4 p2 p1)), .val (.int (f4 p3 p1)), .val (.int (m0_20_0 p1 p2 p3)), .val (.int (m0_24_0 p1)), .val (.int (m0_30_0 p1)), .val (.int (m0_34_0 p1 p2))] [(.int (1 : Int32))])) _
              exact retN X32 hx (t := .boolean) Bd.returns (by simp) (hb hby at_209) hr
            · show Q0 Z p1 p2 p3 p4 p5 p6 h0 n0 _ T32.heap _
              rw [e32]
              exact ⟨by rw [show (f0 p1 p2 p3 p4) = (1 : Int32) from by first | (rw [f0, if_neg hc37, if_neg hc40, if_neg hc43, if_neg hc46, if_neg hc49]; done) | (simp only [f0, if_neg hc37, if_neg hc40, if_neg hc43, if_neg hc46, if_neg hc49]; done) | rfl], N32⟩

theorem own_f4 (a w : Int32) : f4 a w = if (w &&& a) = 0 then 0 else 1 := rfl
theorem own_bv (x : BitVec 32) (n : Nat) (hn : n < 32) : x &&& (1#32 <<< n) = 0#32 ↔ (x >>> n) &&& 1#32 = 0#32 := by
  have e : 1#32 <<< n = BitVec.twoPow 32 n := (BitVec.twoPow_eq 32 n).symm
  rw [e, BitVec.and_twoPow, BitVec.and_one_eq_setWidth_ofBool_getLsbD]
  have e2 : (x >>> n).getLsbD 0 = x.getLsbD n := by simp
  rw [e2]
  cases h : x.getLsbD n
  · simp
  · simp only [if_true]
    constructor
    · intro h0
      have h1 := congrArg (fun b => BitVec.getLsbD b n) h0
      simp [hn] at h1
    · intro h0; exact absurd h0 (by decide)
theorem own_bit (x k : Int32) : (x &&& ((1 : Int32) <<< ((k &&& 31) &&& 31))) = 0 ↔ (((x.toUInt32 >>> ((k &&& 31) &&& 31).toUInt32).toInt32) &&& 1) = 0 := by
  have h31 : ((k &&& 31) &&& 31) = (k &&& 31) := by rw [Int32.and_assoc]; rfl
  rw [h31]
  have hlt : (k &&& 31).toBitVec.toNat < 32 := by
    rw [Int32.toBitVec_and, BitVec.toNat_and]
    exact Nat.lt_of_le_of_lt Nat.and_le_right (by decide)
  rw [← Int32.toBitVec_inj, ← Int32.toBitVec_inj]
  generalize (k &&& 31) = j at *
  have key := own_bv x.toBitVec j.toBitVec.toNat hlt
  have hj : j.toBitVec = BitVec.ofNat 32 j.toBitVec.toNat := by simp
  have s1 : ∀ n : Fin 32, ((BitVec.ofNat 32 n.val).smod 32).toNat = n.val := by decide
  have e1 : ((1 : Int32) <<< j).toBitVec = 1#32 <<< j.toBitVec.toNat := by
    show (1#32) <<< (j.toBitVec.smod 32) = _
    have := s1 ⟨_, hlt⟩
    rw [← hj] at this
    rw [BitVec.shiftLeft_eq', this]
  have e2 : ((x.toUInt32 >>> j.toUInt32).toInt32).toBitVec = x.toBitVec >>> j.toBitVec.toNat := by
    simp only [UInt32.toBitVec_toInt32, UInt32.toBitVec_shiftRight, Int32.toBitVec_toUInt32]
    rw [BitVec.ushiftRight_eq']
    congr 1
    rw [BitVec.toNat_umod]
    exact Nat.mod_eq_of_lt hlt
  rw [Int32.toBitVec_and, Int32.toBitVec_and, e1, e2]
  exact key
theorem own_main (p1 p2 p3 p4 : Int32) : f0 p1 p2 p3 p4 = 1 := by
  have h1 : m0_10_0 p1 p4 = 1 := by
    rw [m0_10_0, m0_5_0, own_f4, if_pos]
    simp only [own_bit]
  have h2 : m0_20_0 p1 p2 p3 = 1 := by
    rw [m0_20_0, m0_16_0, own_f4, own_f4, own_f4, if_pos]
    have e : (p1 &&& (p2 ||| p3)) = 0 ↔ (p1 &&& p2) = 0 ∧ (p1 &&& p3) = 0 := by
      rw [← Int32.toBitVec_inj, ← Int32.toBitVec_inj, ← Int32.toBitVec_inj]
      simp only [Int32.toBitVec_and, Int32.toBitVec_or, Int32.toBitVec_zero, BitVec.and_or_distrib_left, BitVec.or_eq_zero_iff]
    simp only [e]
    by_cases a : (p1 &&& p2) = 0 <;> by_cases b : (p1 &&& p3) = 0 <;> simp [a, b]
  have h3 : m0_24_0 p1 = 1 := by
    rw [m0_24_0, own_f4, if_pos]
    simp
  have h4 : m0_30_0 p1 = 1 := by
    rw [m0_30_0, m0_28_0, own_f4, if_pos]
    simp
  have h5 : m0_34_0 p1 p2 = 1 := by
    rw [m0_34_0, own_f4, own_f4, if_pos]
    have e : (p1 &&& (p2 &&& p1)) = (p1 &&& p2) := by
      rw [Int32.and_comm p2 p1, ← Int32.and_assoc, Int32.and_self]
    rw [e]
  rw [f0, h1, h2, h3, h4, h5]; decide

set_option maxRecDepth 65536 in
set_option maxHeartbeats 40000000 in
theorem comes_1 {Post : Tables → Env → Array Value → State → Outcome → State → Prop} (hpost : ∀ tb e args s v u, (limb_1_1.after args s (.returned v) u = true ∧ limb_1_2.after args s (.returned v) u = true ∧ True) → FrameEnd s (.returned v) u (Jvm.fieldLocs frame_1_writes args s ++ Jvm.arrayLocs frame_1_arrays args s ++ Jvm.staticLocs frame_1_statics s) 16 128 → Post tb e args s (.returned v) u) :
    ArmFor flags0 classFile x code maxLocals ret World_1 tables_1 room_1 Calls_1 rest_1 Pre_1 Post := by
  intro l hfl _ _ p e ha hc hk s m args below hf hA hF happ hP
  obtain ⟨hcalls, hrest, hpre⟩ := hP
  obtain ⟨-, -, -, hnamed, -, -, -, hat⟩ := (Spec.applies_iff hf).mp happ
  obtain ⟨hg, hn⟩ := and_e (Cond.before_iff.mp (show (Jvm.Cond.and given_1 narrow_1).before args s = true from hpre))
  obtain ⟨g1, g2⟩ := and_e hg
  obtain ⟨g3, g4⟩ := and_e g2
  obtain ⟨g5, g6⟩ := and_e g4
  obtain ⟨g7, g8⟩ := and_e g6
  obtain ⟨g9, g10⟩ := and_e g8
  obtain ⟨g11, g12⟩ := and_e g10
  obtain ⟨w0, w1, w2, w3, w4, w5, rfl⟩ : ∃ w0 w1 w2 w3 w4 w5 : Value, args = #[w0, w1, w2, w3, w4, w5] := by
    have hs : args.size = 6 := by simpa [Cond.value, given_1] using g1
    obtain ⟨L⟩ := args
    match L, hs with
    | [w0, w1, w2, w3, w4, w5], _ => exact ⟨w0, w1, w2, w3, w4, w5, rfl⟩
  have hw := fun d (hd : d ∈ tables_1) => atoms_spec (ws := Jvm.Cond.code x code maxLocals ret :: tables_1) hat d (List.mem_cons_of_mem _ hd)
  have hfit : Fit s := fun {y c} hc i hi => by
    obtain ⟨ha, rfl⟩ := Array.getElem?_eq_some_iff.mp hc
    have q := List.all_eq_true.mp ((Array.all_eq_true_iff_forall_mem.mp hF) _ (Array.getElem_mem ha)) i (List.mem_range.mpr hi)
    simpa [Array.getElem?_eq_getElem hi] using q
  obtain ⟨i0, ei0⟩ := is_v g3
  obtain rfl : w0 = (.int i0) := Option.some.inj ei0
  obtain ⟨i1, ei1⟩ := is_v g5
  obtain rfl : w1 = (.int i1) := Option.some.inj ei1
  obtain ⟨i2, ei2⟩ := is_v g7
  obtain rfl : w2 = (.int i2) := Option.some.inj ei2
  obtain ⟨i3, ei3⟩ := is_v g9
  obtain rfl : w3 = (.int i3) := Option.some.inj ei3
  obtain ⟨i4, ei4⟩ := is_v g11
  obtain rfl : w4 = (.int i4) := Option.some.inj ei4
  obtain ⟨i5, ei5⟩ := is_v g12
  obtain rfl : w5 = (.int i5) := Option.some.inj ei5
  obtain ⟨n, o, h1, h2, h3, _, L, rfl, ⟨rfl, N⟩, hq⟩ := rm0 l s _ hw tables_1 i0 i1 i2 i3 i4 i5 s.heap s.heap.size (Nat.le_refl _) p e ha hc hk s m _ below hf ((Spec.applies_iff_loose hf).mp happ).1 ⟨rfl, State.Warmed39.refl s, rfl⟩ trivial
  refine ⟨n, _, h1, h2, h3, hpost _ _ _ _ _ _ ⟨Cond.after_iff.mpr rfl, Cond.after_iff.mpr (eq_i res_at (Term.int_eval (1)) (congrArg Value.int (own_main i0 i1 i2 i3))), trivial⟩ ⟨hq.1, hq.2.1, (hq.2.2.sift fun y hy => Or.inr (N y hy)).mono (by decide) (by decide)⟩⟩
theorem main_1_1 : Claimed_1_1 := comes_1 fun _ _ _ _ _ _ h hF => ⟨h.1, hF⟩
theorem main_1_2 : Claimed_1_2 := comes_1 fun _ _ _ _ _ _ h hF => ⟨h.2.1, hF⟩
end Jvm.Pilot.@@N@@
namespace Jvm.Pilot.@@N@@
open Jvm Jvm.ClassFile Sem Op Lib Jvm.Free Jvm.Stand Jvm.Pilot.@@N@@.Jvm.D
/-! MADE BY PROGRAM (witnessworld.py) out of the Statement's table words and the real class files: 10 classes; the members and pool entries that the words name. The judged class is class 1, her method 1. -/
namespace start1
open Jvm.ClassFile
def u (s : String) : CpInfo := .utf8 (stringToUtf16 s)
/-- a pool by its gaps: so many unusable entries, then the entry; so many at the end -/
def gap : Nat → List CpInfo → List CpInfo
  | 0, r => r
  | n + 1, r => .unusable :: gap n r
def poolList (es : List (Nat × CpInfo)) (last : Nat) : List CpInfo := es.foldr (fun e r => gap e.1 (e.2 :: r)) (gap last [])
def pool (es : List (Nat × CpInfo)) (last : Nat) : Array CpInfo := ⟨poolList es last⟩
def fileOf (pool : Array CpInfo) (this : Nat) (attrs : Array Attribute := #[]) (ms : Array MethodInfo := #[]) (fl : Nat := 33) (sup : Nat := 0) (ifs : Array Nat := #[]) (fds : Array FieldInfo := #[]) : ClassFile where
  minorVersion := 0
  majorVersion := 65
  constantPool := pool
  accessFlags := fl
  thisClass := this
  superClass := sup
  interfaces := ifs
  fields := fds
  methods := ms
  attributes := attrs
def plain (name : String) (sup : Option ClassId) : Class where
  name := name
  kind := .ordinary
  loader := none
  accessFlags := 33
  super := sup
  interfaces := #[]
  cf := none
  fields := #[]
  methods := #[]
  instanceTypes := #[]
  staticTypes := #[]
  resolved := #[]
  callSites := []
  init := .initialized
  statics := none
  mirror := none

def pool0 : Array CpInfo := pool [(5, u "<init>"), (0, u "()V"), (1, .class_ 10), (1, u "java/lang/Object")] 113

def k0c0 : Code := { maxStack := 0, maxLocals := 1, code := object_method_1_code, exceptionTable := #[], attributes := #[] }
def k0m0 : Method := { name := "<init>", desc := "()V", sig := { parameters := [], returnType := none }, accessFlags := 1, code := some k0c0 }
/-- java/lang/Object -/
def k0 : Class := { plain "java/lang/Object" none with
  accessFlags := 33
  interfaces := #[]
  cf := some (fileOf pool0 8 #[] #[{ accessFlags := 1, nameIndex := 5, descriptorIndex := 6, attributes := #[] }] 33 0 #[] #[])
  fields := #[]
  methods := #[k0m0]
  instanceTypes := #[]
  staticTypes := #[]
  resolved := Array.replicate 124 none
  statics := none }

def pool1 : Array CpInfo := pool [(2, .class_ 4), (1, u "java/lang/Object"), (0, u "<init>"), (0, u "()V"), (0, .class_ 8), (0, u "com/example/waymark/waymark/MessageHeaderLayout"), (0, .methodref 7 10), (0, .nameAndType 5 11), (0, u "(IIIII)V"), (0, .methodref 7 13), (0, .nameAndType 14 15), (0, u "has"), (0, u "(I)Z"), (0, .class_ 17), (0, u "com/example/waymark/waymark/MessageHeaderLayoutHasPinLaw"), (2, u "law"), (0, u "(IIIIII)Z")] 3

def k1m0 : Method := { name := "<init>", desc := "()V", sig := { parameters := [], returnType := none }, accessFlags := 1, code := none }
def k1c1 : Code := { maxStack := 8, maxLocals := 16, code := code, exceptionTable := #[], attributes := #[] }
def k1m1 : Method := { name := "law", desc := "(IIIIII)Z", sig := { parameters := [.int, .int, .int, .int, .int, .int], returnType := some .boolean }, accessFlags := 9, code := some k1c1 }
/-- com/example/waymark/waymark/MessageHeaderLayoutHasPinLaw -/
def k1 : Class := { plain "com/example/waymark/waymark/MessageHeaderLayoutHasPinLaw" (some 0) with
  accessFlags := 49
  interfaces := #[]
  cf := some (fileOf pool1 16 #[] #[{ accessFlags := 1, nameIndex := 5, descriptorIndex := 6, attributes := #[] }, { accessFlags := 9, nameIndex := 20, descriptorIndex := 21, attributes := #[] }] 49 2 #[] #[])
  fields := #[]
  methods := #[k1m0, k1m1]
  instanceTypes := #[]
  staticTypes := #[]
  resolved := Array.replicate 25 none
  statics := none }

def pool2 : Array CpInfo := pool [(1, .methodref 2 3), (0, .class_ 4), (0, .nameAndType 5 6), (0, u "java/lang/Object"), (0, u "<init>"), (0, u "()V"), (0, .class_ 8), (0, u "java/lang/Record")] 13

def k2c0 : Code := { maxStack := 1, maxLocals := 1, code := jdk_30_method_1_code, exceptionTable := #[], attributes := #[] }
def k2m0 : Method := { name := "<init>", desc := "()V", sig := { parameters := [], returnType := none }, accessFlags := 4, code := some k2c0 }
/-- java/lang/Record -/
def k2 : Class := { plain "java/lang/Record" (some 0) with
  accessFlags := 1057
  interfaces := #[]
  cf := some (fileOf pool2 7 #[] #[{ accessFlags := 4, nameIndex := 5, descriptorIndex := 6, attributes := #[] }] 1057 2 #[] #[])
  fields := #[]
  methods := #[k2m0]
  instanceTypes := #[]
  staticTypes := #[]
  resolved := Array.replicate 22 none
  statics := none }

def pool3 : Array CpInfo := pool [(1, .methodref 2 3), (0, .class_ 4), (0, .nameAndType 5 6), (0, u "java/lang/Record"), (0, u "<init>"), (0, u "()V"), (0, .fieldref 8 9), (0, .class_ 10), (0, .nameAndType 11 12), (0, u "com/example/waymark/waymark/MessageHeaderLayout"), (0, u "flags"), (0, u "I"), (0, .fieldref 8 14), (0, .nameAndType 15 12), (0, u "addressLength"), (0, .fieldref 8 17), (0, .nameAndType 18 12), (0, u "hopLimit"), (0, .fieldref 8 20), (0, .nameAndType 21 12), (0, u "hopCount"), (0, .fieldref 8 23), (0, .nameAndType 24 12), (0, u "length"), (4, u "(IIIII)V"), (18, u "has"), (0, u "(I)Z")] 27

def k3c0 : Code := { maxStack := 2, maxLocals := 6, code := prog_23_method_1_code, exceptionTable := #[], attributes := #[] }
def k3m0 : Method := { name := "<init>", desc := "(IIIII)V", sig := { parameters := [.int, .int, .int, .int, .int], returnType := none }, accessFlags := 0, code := some k3c0 }
def k3c1 : Code := { maxStack := 2, maxLocals := 2, code := prog_23_method_3_code, exceptionTable := #[], attributes := #[] }
def k3m1 : Method := { name := "has", desc := "(I)Z", sig := { parameters := [.int], returnType := some .boolean }, accessFlags := 0, code := some k3c1 }
/-- com/example/waymark/waymark/MessageHeaderLayout -/
def k3 : Class := { plain "com/example/waymark/waymark/MessageHeaderLayout" (some 2) with
  accessFlags := 48
  interfaces := #[]
  cf := some (fileOf pool3 8 #[] #[{ accessFlags := 0, nameIndex := 5, descriptorIndex := 29, attributes := #[] }, { accessFlags := 0, nameIndex := 48, descriptorIndex := 49, attributes := #[] }] 48 2 #[] #[{ accessFlags := 18, nameIndex := 11, descriptorIndex := 12, attributes := #[] }, { accessFlags := 18, nameIndex := 15, descriptorIndex := 12, attributes := #[] }, { accessFlags := 18, nameIndex := 18, descriptorIndex := 12, attributes := #[] }, { accessFlags := 18, nameIndex := 21, descriptorIndex := 12, attributes := #[] }, { accessFlags := 18, nameIndex := 24, descriptorIndex := 12, attributes := #[] }])
  fields := #[{ name := "flags", type := .int, accessFlags := 18, slot := 0, constantValue := 0 }, { name := "addressLength", type := .int, accessFlags := 18, slot := 1, constantValue := 0 }, { name := "hopLimit", type := .int, accessFlags := 18, slot := 2, constantValue := 0 }, { name := "hopCount", type := .int, accessFlags := 18, slot := 3, constantValue := 0 }, { name := "length", type := .int, accessFlags := 18, slot := 4, constantValue := 0 }]
  methods := #[k3m0, k3m1]
  instanceTypes := #[.int, .int, .int, .int, .int]
  staticTypes := #[]
  resolved := Array.replicate 77 none
  statics := none }

def pool4 : Array CpInfo := pool [(1, u "java/lang/Cloneable"), (0, .class_ 1), (0, u "java/lang/Object"), (0, .class_ 3)] 3

/-- java/lang/Cloneable -/
def k4 : Class := { plain "java/lang/Cloneable" (some 0) with
  accessFlags := 1537
  interfaces := #[]
  cf := some (fileOf pool4 2 #[] #[] 1537 4 #[] #[])
  fields := #[]
  methods := #[]
  instanceTypes := #[]
  staticTypes := #[]
  resolved := Array.replicate 8 none
  statics := none }

def pool5 : Array CpInfo := pool [(1, u "java/io/Serializable"), (0, .class_ 1), (0, u "java/lang/Object"), (0, .class_ 3)] 3

/-- java/io/Serializable -/
def k5 : Class := { plain "java/io/Serializable" (some 0) with
  accessFlags := 1537
  interfaces := #[]
  cf := some (fileOf pool5 2 #[] #[] 1537 4 #[] #[])
  fields := #[]
  methods := #[]
  instanceTypes := #[]
  staticTypes := #[]
  resolved := Array.replicate 8 none
  statics := none }

/-- the primitive byte -/
def k6 : Class := { plain "byte" none with kind := .primitive 'B', accessFlags := 0x411 }
/-- [B -/
def k7 : Class := { plain "[B" (some 0) with kind := .array 6 .byte, interfaces := #[4, 5], accessFlags := 1041 }

/-- the primitive int -/
def k8 : Class := { plain "int" none with kind := .primitive 'I', accessFlags := 0x411 }
/-- [I -/
def k9 : Class := { plain "[I" (some 0) with kind := .array 8 .int, interfaces := #[4, 5], accessFlags := 1041 }

def heap : Heap := #[]
def classes : Array Class := #[k0, k1, k2, k3, k4, k5, k6, k7, k8, k9]
def interned : List (Array UInt16 × Addr) := []
def slotsUsed : Nat := 0
def theMethod : MethodId := ⟨1, 1⟩
def args0 : Array Value := #[.int 5, .int 6, .int 7, .int 8, .int 9, .int 10]
def aboutOver (below : List Frame) : State where
  vm := { classes := classes, interned := interned.toArray }
  heap := heap
  slotsUsed := slotsUsed
  threads := #[{ frames := .invoking theMethod args0 :: below }]
def below0 : List Frame := [.native { method := ⟨0, 0⟩, args := #[] }]
def about1 : State := aboutOver below0
def p0 : Program := .bare "" "" ""
def e0 : Env := launch0.env 0 0 0
theorem w_frames : about1.frames = Frame.invoking theMethod args0 :: below0 := rfl
set_option maxRecDepth 65536 in
theorem w_args : argsFit about1.vm theMethod args0 = true := by decide +kernel
set_option maxRecDepth 65536 in
theorem w_heap : heapFits about1 = true := by decide +kernel
set_option maxRecDepth 65536 in
theorem w_runnable : about1.curStatus? = some .runnable := by decide +kernel
set_option maxRecDepth 65536 in
theorem w_alone : about1.alone = true := by decide +kernel
set_option maxRecDepth 65536 in
theorem w_named : about1.methodNamed? x = some theMethod := by decide +kernel
set_option maxRecDepth 65536 in
theorem w_hears : about1.hears theMethod below0 = true := by decide +kernel
set_option maxRecDepth 65536 in
theorem w_ripe : about1.ripe theMethod args0 below0 = true := by decide +kernel
theorem w_running : about1.status = .running := rfl
set_option maxRecDepth 65536 in
theorem w_room : about1.hasRoom e0.platform room_1 = true :=
  launch0.hasRoom_least _ room_1 (by decide +kernel) (by decide +kernel) (by decide +kernel) (by decide +kernel) (by decide +kernel) (by decide +kernel)
theorem allAtoms_all (ts : List Jvm.Cond) (a : Array Jvm.Value) (st : Jvm.State) : (allAtoms ts).before a st = ts.all (fun c => c.before a st) := by
  induction ts with
  | nil => rfl
  | cons c t ih =>
    show (Jvm.Cond.and c (allAtoms t)).before a st = _
    rw [Jvm.Cond.before_and, ih, List.all_cons]
def words1 : List Jvm.Cond := Jvm.Cond.code x code maxLocals ret :: tables_1
/-- a 'code' word, met by the world's own term for the bytes: nothing is compared byte by byte -/
theorem code_word {y : MethodName} {bytes : ByteArray} {mx : Nat} {rt : Option FieldType} {a : Array Value} {s : State} {m : MethodId} {meth : Method} {c : Code} (h1 : s.methodNamed? y = some m) (h2 : s.vm.method? m = some meth) (h3 : meth.code = some c) (h4 : c.code = bytes)
    (h5 : (c.maxLocals == mx && c.exceptionTable.isEmpty && decide (c.maxStack ≤ mostOperands) && decide (meth.sig.returnType = rt) && !meth.locks && decide (parseMethodDescriptor y.desc = some meth.sig)) = true) : (Jvm.Cond.code y bytes mx rt).before a s = true := by
  simp only [Bool.and_eq_true, beq_iff_eq, Bool.not_eq_true', decide_eq_true_eq] at h5
  obtain ⟨⟨⟨⟨⟨g1, g2⟩, g3⟩, g4⟩, g5⟩, g6⟩ := h5
  simp [Cond.before, Cond.holds, Cond.value, h1, h2, h3, h4, g1, g2, g3, g4, g5, g6]
def isCode : Jvm.Cond → Bool
  | .code _ _ _ _ => true
  | _ => false
theorem all_split {L : List Jvm.Cond} {P : Jvm.Cond → Bool} (h1 : L.all (fun c => isCode c || P c) = true) (h2 : ∀ c ∈ L.filter isCode, P c = true) : L.all P = true := by
  refine List.all_eq_true.mpr fun c hc => ?_
  have h := List.all_eq_true.mp h1 c hc
  rcases Bool.eq_false_or_eq_true (isCode c) with hi | hi
  · exact h2 c (List.mem_filter.mpr ⟨hc, hi⟩)
  · simpa [hi] using h
set_option maxRecDepth 65536 in
theorem w_c0 : (Jvm.Cond.code x code maxLocals ret).before args0 about1 = true := code_word (m := ⟨1, 1⟩) (meth := k1m1) (c := k1c1) (by decide +kernel) rfl rfl rfl (by decide +kernel)
set_option maxRecDepth 65536 in
theorem w_c1 : (Jvm.Cond.code ({ cls := "com/example/waymark/waymark/MessageHeaderLayout", name := "<init>", desc := "(IIIII)V" } : Jvm.MethodName) prog_23_method_1_code (6 : Nat) (Option.none : Option Jvm.ClassFile.FieldType)).before args0 about1 = true := code_word (m := ⟨3, 0⟩) (meth := k3m0) (c := k3c0) (by decide +kernel) rfl rfl rfl (by decide +kernel)
set_option maxRecDepth 65536 in
theorem w_c2 : (Jvm.Cond.code ({ cls := "java/lang/Record", name := "<init>", desc := "()V" } : Jvm.MethodName) jdk_30_method_1_code (1 : Nat) (Option.none : Option Jvm.ClassFile.FieldType)).before args0 about1 = true := code_word (m := ⟨2, 0⟩) (meth := k2m0) (c := k2c0) (by decide +kernel) rfl rfl rfl (by decide +kernel)
set_option maxRecDepth 65536 in
theorem w_c3 : (Jvm.Cond.code ({ cls := "java/lang/Object", name := "<init>", desc := "()V" } : Jvm.MethodName) object_method_1_code (1 : Nat) (Option.none : Option Jvm.ClassFile.FieldType)).before args0 about1 = true := code_word (m := ⟨0, 0⟩) (meth := k0m0) (c := k0c0) (by decide +kernel) rfl rfl rfl (by decide +kernel)
set_option maxRecDepth 65536 in
theorem w_c4 : (Jvm.Cond.code ({ cls := "com/example/waymark/waymark/MessageHeaderLayout", name := "has", desc := "(I)Z" } : Jvm.MethodName) prog_23_method_3_code (2 : Nat) (Option.some Jvm.ClassFile.FieldType.boolean)).before args0 about1 = true := code_word (m := ⟨3, 1⟩) (meth := k3m1) (c := k3c1) (by decide +kernel) rfl rfl rfl (by decide +kernel)
def codes1 : List Jvm.Cond := [Jvm.Cond.code x code maxLocals ret, Jvm.Cond.code ({ cls := "com/example/waymark/waymark/MessageHeaderLayout", name := "<init>", desc := "(IIIII)V" } : Jvm.MethodName) prog_23_method_1_code (6 : Nat) (Option.none : Option Jvm.ClassFile.FieldType), Jvm.Cond.code ({ cls := "java/lang/Record", name := "<init>", desc := "()V" } : Jvm.MethodName) jdk_30_method_1_code (1 : Nat) (Option.none : Option Jvm.ClassFile.FieldType), Jvm.Cond.code ({ cls := "java/lang/Object", name := "<init>", desc := "()V" } : Jvm.MethodName) object_method_1_code (1 : Nat) (Option.none : Option Jvm.ClassFile.FieldType), Jvm.Cond.code ({ cls := "com/example/waymark/waymark/MessageHeaderLayout", name := "has", desc := "(I)Z" } : Jvm.MethodName) prog_23_method_3_code (2 : Nat) (Option.some Jvm.ClassFile.FieldType.boolean)]
set_option maxRecDepth 65536 in
theorem codes_eq : words1.filter isCode = codes1 := rfl
theorem w_codes : ∀ c ∈ words1.filter isCode, c.before args0 about1 = true := by
  rw [codes_eq]
  intro c hc
  simp only [codes1, List.mem_cons, List.not_mem_nil, or_false] at hc
  rcases hc with rfl | rfl | rfl | rfl | rfl
  · exact w_c0
  · exact w_c1
  · exact w_c2
  · exact w_c3
  · exact w_c4
set_option maxRecDepth 65536 in
theorem w_t1 : (words1.take 24).all (fun c => isCode c || c.before args0 about1) = true := by decide +kernel
set_option maxRecDepth 65536 in
theorem w_t2 : (words1.drop 24).all (fun c => isCode c || c.before args0 about1) = true := by decide +kernel
theorem w_tables : (allAtoms (Jvm.Cond.code x code maxLocals ret :: tables_1)).before args0 about1 = true := by
  rw [allAtoms_all]
  show words1.all (fun c => c.before args0 about1) = true
  refine all_split ?_ w_codes
  rw [← List.take_append_drop 24 words1, List.all_append, w_t1, w_t2]
  rfl
set_option maxRecDepth 65536 in
theorem w_case : (Jvm.Cond.and given_1 narrow_1).before args0 about1 = true := by decide +kernel
theorem w_applies : (headSpec (Jvm.Cond.code x code maxLocals ret :: tables_1) room_1).applies x e0.platform about1 = true :=
  (Spec.applies_iff w_frames).mpr ⟨w_running, w_runnable, w_alone, w_named, w_hears, w_ripe, w_room, w_tables⟩
theorem atStart : AtStart classFile x code maxLocals ret World_1 tables_1 room_1 Calls_1 rest_1 Pre_1 launch0 p0 e0 about1 theMethod args0 below0 :=
  ⟨lists_1, trivial, launch0.admits_env _ _ _, launch0.least_env, fairChoices_fair.cas, fairChoices_fair.clock, w_frames, w_args, w_heap, w_applies, trivial, trivial, w_case⟩
end start1
theorem witness_1 : WitnessClaimed_1 := ⟨start1.p0, start1.e0, start1.about1, start1.theMethod, start1.args0, start1.below0, start1.atStart⟩
end Jvm.Pilot.@@N@@

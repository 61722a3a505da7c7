import JvmDerived
import JvmDerived.Pilot.@@N@@Statement
import JvmDerived.Pilot.@@N@@Code
set_option linter.unusedVariables false
set_option linter.unusedSimpArgs false
@@BLOCK:NumsL.lean.txt@@
namespace Jvm.RoadKit
open Sem ClassFile Op Lib Jvm.Stand Jvm.Free Jvm.LawKit
section New
variable {p : Program} {l : Launch} {e : Env} {R : Room} {s : State} {m : MethodId} {args : Array Value} {below : List Frame} {meth : Method} {c : Code} {T : State} {locs : List Loc} {cells slots : Nat}
theorem retI (X : Stand p l e R s m args below meth c T locs cells slots) (hx : p.tables.exec = Jvm.exec) {pc : Nat} {Ls : Array Slot} {z : Int32} {rest : List Value} (hret : meth.sig.returnType = some .int) (hd : decode c.code pc = .ok (.ireturn, 1)) {fs : List Frame}
    (hl : ∀ (f : JFrame) (acts : List Action), f.method = m → f.locked = none → f.entered = [] → (doReturn e (T.setTop f) acts (some (.int z))).1 = T.setFrames fs) : Steps p.tables e below (T.setTop (mkF m pc Ls (.int z :: rest))) (T.setFrames fs) := by
  have hm' : T.vm.method? m = some meth := X.method'
  have hn : narrow .int (.int z) = .int z := rfl
  show Steps p.tables e below (T.setTop { method := m, pc := pc, locals := Ls, stack := _ :: rest, locked := none }) _
  jvm_step X.here [X.here.top, hx, hd, hm', hret, hn]
  first | (intro acts; rw [hl _ acts rfl rfl rfl]) | rw [hl _ _ rfl rfl rfl]
  exact Steps.refl _
end New
end Jvm.RoadKit
namespace Jvm.Pilot.@@N@@
open Jvm Jvm.ClassFile Sem Op Lib Jvm.Free Jvm.Stand Jvm.LawKit Jvm.RoadKit Bundle Jvm.Pilot.@@N@@.Jvm.D


theorem own_lt {x y : Int64} : lcmpW x y < 0 ↔ x < y := by rw [lcW]; exact lc_lt x y
theorem own_gt {x y : Int64} : 0 < lcmpW x y ↔ y < x := by rw [lcW]; exact lc_gt x y
theorem own_le {x y : Int64} : lcmpW x y = 0 ↔ x = y := by rw [lcW]; exact lc_eq x y

theorem d2_0 : decode jdk_30_method_1_code 0 = .ok (.aload_n 0, 1) := by decide +kernel
theorem d2_1 : decode jdk_30_method_1_code 1 = .ok (.invokespecial 1, 3) := by decide +kernel
theorem d2_4 : decode jdk_30_method_1_code 4 = .ok (.return_, 1) := by decide +kernel
theorem pn_0 : plainName "java/lang/Record" = true := by first | (simp [plainName, overriddenIn]; done) | decide +kernel
theorem ef_2 (m : MethodId) (x0 : Addr) : entryFrame m #[(.ref x0)] 1 = mkF m 0 #[.val (.ref x0)] [] := by first | (simp [entryFrame, mkF, argsToLocals, Value.category]; done) | rfl
def Q2 (Z : State) (a1 : Addr) (h0 : Heap) (n0 : Nat) (v : Option Value) (h : Heap) (L : List Loc) : Prop := v = none ∧ Fr n0 L ∧ h = h0
set_option maxRecDepth 65536 in
set_option maxHeartbeats 40000000 in
theorem rm2 (l : Launch) (Z : State) (a0 : Array Value) (hw : ∀ d ∈ tables_1, d.before a0 Z = true) (ws : List Jvm.Cond) (a1 : Addr) (h0 : Heap) (n0 : Nat) (Z0 : n0 ≤ h0.size) :
    MetFree l (⟨"java/lang/Record", "<init>", "()V"⟩ : MethodName) (head1 (Jvm.Cond.code (⟨"java/lang/Record", "<init>", "()V"⟩ : MethodName) jdk_30_method_1_code 1 none :: ws) ({ frames := 1, cells := 0, slots := 0, locals := 12 } : Room)) (fun a U => a = #[(.ref a1)] ∧ Z.Warmed39 U.vm ∧ U.heap = h0) (fun _ _ _ _ _ => True) (fun _ U o U' => ∃ v L, o = .returned v ∧ Q2 Z a1 h0 n0 v U'.heap L ∧ FrameEnd U o U' L ({ frames := 1, cells := 0, slots := 0, locals := 12 } : Room).cells ({ frames := 1, cells := 0, slots := 0, locals := 12 } : Room).slots) := by
  refine MetFree.of_bodySF (plainFor_of_name pn_0) hisR ?_
  intro p e s m args below meth c s₁ Bd hml0 hP hK
  obtain ⟨rfl, hZ, hh⟩ := hP
  have hx := Bd.exec
  have hby := Bd.bytes
  have hml : c.maxLocals = 1 := hml0
  have hown : s.vm.findClass "java/lang/Record" = some m.cls := findClass_of_methodNamed Bd.named
  have hnm := (name_of_methodNamed Bd.named Bd.method).1
  have X0 : Stand p l e ({ frames := 1, cells := 0, slots := 0, locals := 12 } : Room) s m #[(.ref a1)] below meth c s₁ [] 0 0 := Stand.of_body Bd
  have e0 : s₁.heap = h0 := by rw [← hh, Bd.state]; rfl
  have N0 := Fr.nil n0
  have pre0 : ∀ t, Steps p.tables e below (s₁.setTop (mkF m 0 #[.val (.ref a1)] [])) t → Steps p.tables e below (s₁.setTop (entryFrame m #[(.ref a1)] 1)) t := fun t k => castTop (ef_2 m a1) k
  obtain ⟨T1, X1, e1, st1⟩ := initO X0 hx hZ hown (hw _ (List.mem_of_getElem? (i := 11) rfl)) (hw _ (List.mem_of_getElem? (i := 12) rfl)) (hw _ (List.mem_of_getElem? (i := 13) rfl)) e0 (g := (mkF m 1 #[.val (.ref a1)] [(.ref a1)])) rfl (by rw [hml]; rfl) rfl (hb hby d2_1) (by decide) (W := 0) (by show 2 * 0 + _ ≤ _; exact Nat.le_of_eq rfl) (by decide)
  obtain ⟨fs, hr, hrun, hended, hW, hsame⟩ := X1.leave (v := none) (fun _ => rfl)
  refine ⟨_, _, pre0 _ ?_, hrun, hended, _, _, rfl, ?_, ⟨_, rfl⟩, hW, hsame.mono (by decide) (by decide)⟩
  · show Steps p.tables e below (s₁.setTop (mkF m 0 #[.val (.ref a1)] [])) _
    refine XS.aloadN X0.here hx rfl (hb hby d2_0) rfl rfl ?_
    show Steps p.tables e below (s₁.setTop (mkF m 1 #[.val (.ref a1)] [(.ref a1)])) _
    refine st1 _ ?_
    show Steps p.tables e below (T1.setTop (mkF m 4 #[.val (.ref a1)] [])) _
    exact X1.returnOut hx Bd.returns (hb hby d2_4) hr
  · show Q2 Z a1 h0 n0 _ T1.heap _
    rw [e1]
    exact ⟨rfl, N0, rfl⟩
theorem d1_0 : decode prog_30_method_1_code 0 = .ok (.aload_n 0, 1) := by decide +kernel
theorem d1_1 : decode prog_30_method_1_code 1 = .ok (.invokespecial 1, 3) := by decide +kernel
theorem pd_0 : parseMethodDescriptor "()V" = some ⟨[], none⟩ := by decide +kernel
theorem d1_4 : decode prog_30_method_1_code 4 = .ok (.aload_n 0, 1) := by decide +kernel
theorem d1_5 : decode prog_30_method_1_code 5 = .ok (.iload_n 1, 1) := by decide +kernel
theorem d1_6 : decode prog_30_method_1_code 6 = .ok (.putfield 7, 3) := by decide +kernel
theorem d1_9 : decode prog_30_method_1_code 9 = .ok (.aload_n 0, 1) := by decide +kernel
theorem d1_10 : decode prog_30_method_1_code 10 = .ok (.iload_n 2, 1) := by decide +kernel
theorem d1_11 : decode prog_30_method_1_code 11 = .ok (.putfield 13, 3) := by decide +kernel
theorem d1_14 : decode prog_30_method_1_code 14 = .ok (.aload_n 0, 1) := by decide +kernel
theorem d1_15 : decode prog_30_method_1_code 15 = .ok (.lload_n 3, 1) := by decide +kernel
theorem d1_16 : decode prog_30_method_1_code 16 = .ok (.putfield 16, 3) := by decide +kernel
theorem d1_19 : decode prog_30_method_1_code 19 = .ok (.aload_n 0, 1) := by decide +kernel
theorem d1_20 : decode prog_30_method_1_code 20 = .ok (.lload 5, 2) := by decide +kernel
theorem d1_22 : decode prog_30_method_1_code 22 = .ok (.putfield 20, 3) := by decide +kernel
theorem d1_25 : decode prog_30_method_1_code 25 = .ok (.return_, 1) := by decide +kernel
theorem pn_1 : plainName "com/example/siphon/siphon/net/Incidence$Link" = true := by first | (simp [plainName, overriddenIn]; done) | decide +kernel
theorem ef_1 (m : MethodId) (x0 : Addr) (x1 : Int32) (x2 : Int32) (x3 : Int64) (x4 : Int64) : entryFrame m #[(.ref x0), (.int x1), (.int x2), (.long x3), (.long x4)] 7 = mkF m 0 #[.val (.ref x0), .val (.int x1), .val (.int x2), .val (.long x3), .second, .val (.long x4), .second] [] := by first | (simp [entryFrame, mkF, argsToLocals, Value.category]; done) | rfl
def Q1 (Z : State) (a1 : Addr) (p2 : Int32) (p3 : Int32) (q4 : Int64) (q5 : Int64) (h0 : Heap) (n0 : Nat) (v : Option Value) (h : Heap) (L : List Loc) : Prop := v = none ∧ Fr n0 L ∧ Keep h0 h [a1] ∧ Fld Z h a1 "com/example/siphon/siphon/net/Incidence$Link" "place" "I" (.int p2) ∧ Fld Z h a1 "com/example/siphon/siphon/net/Incidence$Link" "transition" "I" (.int p3) ∧ Fld Z h a1 "com/example/siphon/siphon/net/Incidence$Link" "take" "J" (.long q4) ∧ Fld Z h a1 "com/example/siphon/siphon/net/Incidence$Link" "give" "J" (.long q5)
set_option maxRecDepth 65536 in
set_option maxHeartbeats 40000000 in
theorem rm1 (l : Launch) (Z : State) (a0 : Array Value) (hw : ∀ d ∈ tables_1, d.before a0 Z = true) (ws : List Jvm.Cond) (a1 : Addr) (p2 : Int32) (p3 : Int32) (q4 : Int64) (q5 : Int64) (h0 : Heap) (n0 : Nat) (Z0 : n0 ≤ h0.size) (E_a1 : Exa Z h0 a1 "com/example/siphon/siphon/net/Incidence$Link") (g_a1 : n0 ≤ a1) (F_a1_place : Fld Z h0 a1 "com/example/siphon/siphon/net/Incidence$Link" "place" "I" (.int (0 : Int32))) (F_a1_transition : Fld Z h0 a1 "com/example/siphon/siphon/net/Incidence$Link" "transition" "I" (.int (0 : Int32))) (F_a1_take : Fld Z h0 a1 "com/example/siphon/siphon/net/Incidence$Link" "take" "J" (.long (0 : Int64))) (F_a1_give : Fld Z h0 a1 "com/example/siphon/siphon/net/Incidence$Link" "give" "J" (.long (0 : Int64))) :
    MetFree l (⟨"com/example/siphon/siphon/net/Incidence$Link", "<init>", "(IIJJ)V"⟩ : MethodName) (head1 (Jvm.Cond.code (⟨"com/example/siphon/siphon/net/Incidence$Link", "<init>", "(IIJJ)V"⟩ : MethodName) prog_30_method_1_code 7 none :: ws) ({ frames := 2, cells := 0, slots := 0, locals := 24 } : Room)) (fun a U => a = #[(.ref a1), (.int p2), (.int p3), (.long q4), (.long q5)] ∧ Z.Warmed39 U.vm ∧ U.heap = h0) (fun _ _ _ _ _ => True) (fun _ U o U' => ∃ v L, o = .returned v ∧ Q1 Z a1 p2 p3 q4 q5 h0 n0 v U'.heap L ∧ FrameEnd U o U' L ({ frames := 2, cells := 0, slots := 0, locals := 24 } : Room).cells ({ frames := 2, cells := 0, slots := 0, locals := 24 } : Room).slots) := by
  refine MetFree.of_bodySF (plainFor_of_name pn_1) hisR ?_
  intro p e s m args below meth c s₁ Bd hml0 hP hK
  obtain ⟨rfl, hZ, hh⟩ := hP
  have hx := Bd.exec
  have hby := Bd.bytes
  have hml : c.maxLocals = 7 := hml0
  have hown : s.vm.findClass "com/example/siphon/siphon/net/Incidence$Link" = some m.cls := findClass_of_methodNamed Bd.named
  have hnm := (name_of_methodNamed Bd.named Bd.method).1
  have X0 : Stand p l e ({ frames := 2, cells := 0, slots := 0, locals := 24 } : Room) s m #[(.ref a1), (.int p2), (.int p3), (.long q4), (.long q5)] below meth c s₁ [] 0 0 := Stand.of_body Bd
  have e0 : s₁.heap = h0 := by rw [← hh, Bd.state]; rfl
  have N0 := Fr.nil n0
  have pre0 : ∀ t, Steps p.tables e below (s₁.setTop (mkF m 0 #[.val (.ref a1), .val (.int p2), .val (.int p3), .val (.long q4), .second, .val (.long q5), .second] [])) t → Steps p.tables e below (s₁.setTop (entryFrame m #[(.ref a1), (.int p2), (.int p3), (.long q4), (.long q5)] 7)) t := fun t k => castTop (ef_1 m a1 p2 p3 q4 q5) k
  obtain ⟨_, _, ⟨T1, L1, k1, n1⟩, -, X1, ⟨Lc1, hQ1, l1, y1, z1⟩, st1⟩ := X0.specialBack hx (y := (⟨"java/lang/Record", "<init>", "()V"⟩ : MethodName)) rfl hown (mvT hZ (hw _ (List.mem_of_getElem? (i := 6) rfl))) (mvT hZ (hw _ (List.mem_of_getElem? (i := 7) rfl))) (mvT hZ (hw _ (List.mem_of_getElem? (i := 10) rfl))) (by decide) (backOf (W := 0) (rm2 l Z a0 hw [] a1 h0 n0 Z0) hZ (hw _ (List.mem_of_getElem? (i := 10) rfl)) (hw _ (List.mem_of_getElem? (i := 9) rfl)) (by decide) (by decide)) (g := (mkF m 1 #[.val (.ref a1), .val (.int p2), .val (.int p3), .val (.long q4), .second, .val (.long q5), .second] [(.ref a1)])) rfl (by rw [hml]; rfl) (Steps.refl _) (a := a1) (argsL := []) (rest := []) (lenOf pd_0 rfl) rfl (by show 2 * 0 + _ ≤ _; exact Nat.le_of_eq rfl) (hb hby d1_1) (fun _ _ => ⟨rfl, e0, (by decide : 0 + 0 ≤ _), (by decide : 0 + 0 ≤ _)⟩)
  dsimp only [Pt.U, Pt.locs, Pt.cells, Pt.slots] at X1 l1 y1 z1 st1 hQ1
  subst l1 y1 z1
  obtain ⟨rfl, N1q, e1⟩ := hQ1
  have N1 := Fr.app N0 N1q
  obtain ⟨T2, h2, X2, e2, W2, st2⟩ := putF X1 hx hZ hown (host := "") (Or.inl (hw _ (List.mem_of_getElem? (i := 14) rfl))) Via.refl e1 F_a1_place E_a1 (Or.inr ⟨(hw _ (List.mem_of_getElem? (i := 15) rfl)), rfl, hnm⟩) (hw _ (List.mem_of_getElem? (i := 1) rfl)) (ty := .int) (by decide) rfl rfl (g := (mkF m 6 #[.val (.ref a1), .val (.int p2), .val (.int p3), .val (.long q4), .second, .val (.long q5), .second] [(.int p2), (.ref a1)])) rfl rfl (hb hby d1_6)
  have Fw2 := F_a1_place.same W2
  have K2 : Keep h0 h2 [a1] := (Keep.refl h0 [a1]).wr W2 (Or.inl (List.mem_of_getElem? (i := 0) rfl))
  have N2 := Fr.snoc X2 N1 g_a1
  have F4 := (E_a1.wr W2)
  have F5 := (F_a1_transition.other W2 (Or.inr (slot_ne (Or.inr (hw _ (List.mem_of_getElem? (i := 17) rfl))) (Or.inr (hw _ (List.mem_of_getElem? (i := 15) rfl))) (by decide) (t := .int) (t' := .int) (by decide) (by decide))))
  obtain ⟨T3, h3, X3, e3, W3, st3⟩ := putF X2 hx hZ hown (host := "") (Or.inl (hw _ (List.mem_of_getElem? (i := 16) rfl))) Via.refl e2 F5 F4 (Or.inr ⟨(hw _ (List.mem_of_getElem? (i := 17) rfl)), rfl, hnm⟩) (hw _ (List.mem_of_getElem? (i := 1) rfl)) (ty := .int) (by decide) rfl rfl (g := (mkF m 11 #[.val (.ref a1), .val (.int p2), .val (.int p3), .val (.long q4), .second, .val (.long q5), .second] [(.int p3), (.ref a1)])) rfl rfl (hb hby d1_11)
  have Fw3 := F5.same W3
  have K3 : Keep h0 h3 [a1] := K2.wr W3 (Or.inl (List.mem_of_getElem? (i := 0) rfl))
  have N3 := Fr.snoc X3 N2 g_a1
  have F7 := (F4.wr W3)
  have F8 := ((F_a1_take.other W2 (Or.inr (slot_ne (Or.inr (hw _ (List.mem_of_getElem? (i := 19) rfl))) (Or.inr (hw _ (List.mem_of_getElem? (i := 15) rfl))) (by decide) (t := .long) (t' := .int) (by decide) (by decide)))).other W3 (Or.inr (slot_ne (Or.inr (hw _ (List.mem_of_getElem? (i := 19) rfl))) (Or.inr (hw _ (List.mem_of_getElem? (i := 17) rfl))) (by decide) (t := .long) (t' := .int) (by decide) (by decide))))
  obtain ⟨T6, h6, X6, e6, W6, st6⟩ := putF X3 hx hZ hown (host := "") (Or.inl (hw _ (List.mem_of_getElem? (i := 18) rfl))) Via.refl e3 F8 F7 (Or.inr ⟨(hw _ (List.mem_of_getElem? (i := 19) rfl)), rfl, hnm⟩) (hw _ (List.mem_of_getElem? (i := 1) rfl)) (ty := .long) (by decide) rfl rfl (g := (mkF m 16 #[.val (.ref a1), .val (.int p2), .val (.int p3), .val (.long q4), .second, .val (.long q5), .second] [(.long q4), (.ref a1)])) rfl rfl (hb hby d1_16)
  have Fw6 := F8.same W6
  have K6 : Keep h0 h6 [a1] := K3.wr W6 (Or.inl (List.mem_of_getElem? (i := 0) rfl))
  have N6 := Fr.snoc X6 N3 g_a1
  have F10 := (F7.wr W6)
  have F11 := (((F_a1_give.other W2 (Or.inr (slot_ne (Or.inr (hw _ (List.mem_of_getElem? (i := 21) rfl))) (Or.inr (hw _ (List.mem_of_getElem? (i := 15) rfl))) (by decide) (t := .long) (t' := .int) (by decide) (by decide)))).other W3 (Or.inr (slot_ne (Or.inr (hw _ (List.mem_of_getElem? (i := 21) rfl))) (Or.inr (hw _ (List.mem_of_getElem? (i := 17) rfl))) (by decide) (t := .long) (t' := .int) (by decide) (by decide)))).other W6 (Or.inr (slot_ne (Or.inr (hw _ (List.mem_of_getElem? (i := 21) rfl))) (Or.inr (hw _ (List.mem_of_getElem? (i := 19) rfl))) (by decide) (t := .long) (t' := .long) (by decide) (by decide))))
  obtain ⟨T9, h9, X9, e9, W9, st9⟩ := putF X6 hx hZ hown (host := "") (Or.inl (hw _ (List.mem_of_getElem? (i := 20) rfl))) Via.refl e6 F11 F10 (Or.inr ⟨(hw _ (List.mem_of_getElem? (i := 21) rfl)), rfl, hnm⟩) (hw _ (List.mem_of_getElem? (i := 1) rfl)) (ty := .long) (by decide) rfl rfl (g := (mkF m 22 #[.val (.ref a1), .val (.int p2), .val (.int p3), .val (.long q4), .second, .val (.long q5), .second] [(.long q5), (.ref a1)])) rfl rfl (hb hby d1_22)
  have Fw9 := F11.same W9
  have K9 : Keep h0 h9 [a1] := K6.wr W9 (Or.inl (List.mem_of_getElem? (i := 0) rfl))
  have N9 := Fr.snoc X9 N6 g_a1
  obtain ⟨fs, hr, hrun, hended, hW, hsame⟩ := X9.leave (v := none) (fun _ => rfl)
  refine ⟨_, _, pre0 _ ?_, hrun, hended, _, _, rfl, ?_, ⟨_, rfl⟩, hW, hsame.mono (by decide) (by decide)⟩
  · show Steps p.tables e below (s₁.setTop (mkF m 0 #[.val (.ref a1), .val (.int p2), .val (.int p3), .val (.long q4), .second, .val (.long q5), .second] [])) _
    refine XS.aloadN X0.here hx rfl (hb hby d1_0) rfl rfl ?_
    show Steps p.tables e below (s₁.setTop (mkF m 1 #[.val (.ref a1), .val (.int p2), .val (.int p3), .val (.long q4), .second, .val (.long q5), .second] [(.ref a1)])) _
    refine st1.trans ?_
    show Steps p.tables e below (T1.setTop (mkF m 4 #[.val (.ref a1), .val (.int p2), .val (.int p3), .val (.long q4), .second, .val (.long q5), .second] [])) _
    refine XS.aloadN X1.here hx rfl (hb hby d1_4) rfl rfl ?_
    show Steps p.tables e below (T1.setTop (mkF m 5 #[.val (.ref a1), .val (.int p2), .val (.int p3), .val (.long q4), .second, .val (.long q5), .second] [(.ref a1)])) _
    refine XS.iloadN X1.here hx rfl (hb hby d1_5) rfl ?_
    show Steps p.tables e below (T1.setTop (mkF m 6 #[.val (.ref a1), .val (.int p2), .val (.int p3), .val (.long q4), .second, .val (.long q5), .second] [(.int p2), (.ref a1)])) _
    refine st2 _ ?_
    show Steps p.tables e below (T2.setTop (mkF m 9 #[.val (.ref a1), .val (.int p2), .val (.int p3), .val (.long q4), .second, .val (.long q5), .second] [])) _
    refine XS.aloadN X2.here hx rfl (hb hby d1_9) rfl rfl ?_
    show Steps p.tables e below (T2.setTop (mkF m 10 #[.val (.ref a1), .val (.int p2), .val (.int p3), .val (.long q4), .second, .val (.long q5), .second] [(.ref a1)])) _
    refine XS.iloadN X2.here hx rfl (hb hby d1_10) rfl ?_
    show Steps p.tables e below (T2.setTop (mkF m 11 #[.val (.ref a1), .val (.int p2), .val (.int p3), .val (.long q4), .second, .val (.long q5), .second] [(.int p3), (.ref a1)])) _
    refine st3 _ ?_
    show Steps p.tables e below (T3.setTop (mkF m 14 #[.val (.ref a1), .val (.int p2), .val (.int p3), .val (.long q4), .second, .val (.long q5), .second] [])) _
    refine XS.aloadN X3.here hx rfl (hb hby d1_14) rfl rfl ?_
    show Steps p.tables e below (T3.setTop (mkF m 15 #[.val (.ref a1), .val (.int p2), .val (.int p3), .val (.long q4), .second, .val (.long q5), .second] [(.ref a1)])) _
    refine XS.lloadN X3.here hx rfl (hb hby d1_15) rfl ?_
    show Steps p.tables e below (T3.setTop (mkF m 16 #[.val (.ref a1), .val (.int p2), .val (.int p3), .val (.long q4), .second, .val (.long q5), .second] [(.long q4), (.ref a1)])) _
    refine st6 _ ?_
    show Steps p.tables e below (T6.setTop (mkF m 19 #[.val (.ref a1), .val (.int p2), .val (.int p3), .val (.long q4), .second, .val (.long q5), .second] [])) _
    refine XS.aloadN X6.here hx rfl (hb hby d1_19) rfl rfl ?_
    show Steps p.tables e below (T6.setTop (mkF m 20 #[.val (.ref a1), .val (.int p2), .val (.int p3), .val (.long q4), .second, .val (.long q5), .second] [(.ref a1)])) _
    refine XS.lload X6.here hx rfl (hb hby d1_20) rfl ?_
    show Steps p.tables e below (T6.setTop (mkF m 22 #[.val (.ref a1), .val (.int p2), .val (.int p3), .val (.long q4), .second, .val (.long q5), .second] [(.long q5), (.ref a1)])) _
    refine st9 _ ?_
    show Steps p.tables e below (T9.setTop (mkF m 25 #[.val (.ref a1), .val (.int p2), .val (.int p3), .val (.long q4), .second, .val (.long q5), .second] [])) _
    exact X9.returnOut hx Bd.returns (hb hby d1_25) hr
  · show Q1 Z a1 p2 p3 q4 q5 h0 n0 _ T9.heap _
    rw [e9]
    have F13 := (((Fw2.other W3 (Or.inr (slot_ne (Or.inr (hw _ (List.mem_of_getElem? (i := 15) rfl))) (Or.inr (hw _ (List.mem_of_getElem? (i := 17) rfl))) (by decide) (t := .int) (t' := .int) (by decide) (by decide)))).other W6 (Or.inr (slot_ne (Or.inr (hw _ (List.mem_of_getElem? (i := 15) rfl))) (Or.inr (hw _ (List.mem_of_getElem? (i := 19) rfl))) (by decide) (t := .int) (t' := .long) (by decide) (by decide)))).other W9 (Or.inr (slot_ne (Or.inr (hw _ (List.mem_of_getElem? (i := 15) rfl))) (Or.inr (hw _ (List.mem_of_getElem? (i := 21) rfl))) (by decide) (t := .int) (t' := .long) (by decide) (by decide))))
    have F14 := ((Fw3.other W6 (Or.inr (slot_ne (Or.inr (hw _ (List.mem_of_getElem? (i := 17) rfl))) (Or.inr (hw _ (List.mem_of_getElem? (i := 19) rfl))) (by decide) (t := .int) (t' := .long) (by decide) (by decide)))).other W9 (Or.inr (slot_ne (Or.inr (hw _ (List.mem_of_getElem? (i := 17) rfl))) (Or.inr (hw _ (List.mem_of_getElem? (i := 21) rfl))) (by decide) (t := .int) (t' := .long) (by decide) (by decide))))
    have F15 := (Fw6.other W9 (Or.inr (slot_ne (Or.inr (hw _ (List.mem_of_getElem? (i := 19) rfl))) (Or.inr (hw _ (List.mem_of_getElem? (i := 21) rfl))) (by decide) (t := .long) (t' := .long) (by decide) (by decide))))
    exact ⟨rfl, N9, K9, F13, F14, F15, Fw9⟩
theorem d4_0 : decode prog_30_method_2_code 0 = .ok (.aload_n 0, 1) := by decide +kernel
theorem d4_1 : decode prog_30_method_2_code 1 = .ok (.getfield 16, 3) := by decide +kernel
theorem d4_4 : decode prog_30_method_2_code 4 = .ok (.aload_n 0, 1) := by decide +kernel
theorem d4_5 : decode prog_30_method_2_code 5 = .ok (.getfield 20, 3) := by decide +kernel
theorem d4_8 : decode prog_30_method_2_code 8 = .ok (.lcmp, 1) := by decide +kernel
theorem d4_9 : decode prog_30_method_2_code 9 = .ok (.ifCond .ne 7, 3) := by decide +kernel
theorem d4_12 : decode prog_30_method_2_code 12 = .ok (.iconst 1, 1) := by decide +kernel
theorem d4_13 : decode prog_30_method_2_code 13 = .ok (.goto 4, 3) := by decide +kernel
theorem d4_17 : decode prog_30_method_2_code 17 = .ok (.ireturn, 1) := by decide +kernel
theorem d4_16 : decode prog_30_method_2_code 16 = .ok (.iconst 0, 1) := by decide +kernel
def f4 (w1 : Int64) (w2 : Int64) : Int32 := if (lcmpW w1 w2) = (0 : Int32) then (1 : Int32) else (0 : Int32)
theorem ef_4 (m : MethodId) (x0 : Addr) : entryFrame m #[(.ref x0)] 1 = mkF m 0 #[.val (.ref x0)] [] := by first | (simp [entryFrame, mkF, argsToLocals, Value.category]; done) | rfl
def Q4 (Z : State) (a1 : Addr) (w1 : Int64) (w2 : Int64) (h0 : Heap) (n0 : Nat) (v : Option Value) (h : Heap) (L : List Loc) : Prop := v = some (.int (f4 w1 w2)) ∧ Fr n0 L ∧ h = h0
set_option maxRecDepth 65536 in
set_option maxHeartbeats 40000000 in
theorem rm4 (l : Launch) (Z : State) (a0 : Array Value) (hw : ∀ d ∈ tables_1, d.before a0 Z = true) (ws : List Jvm.Cond) (a1 : Addr) (w1 : Int64) (w2 : Int64) (h0 : Heap) (n0 : Nat) (Z0 : n0 ≤ h0.size) (F_a1_take : Fld Z h0 a1 "com/example/siphon/siphon/net/Incidence$Link" "take" "J" (.long w1)) (F_a1_give : Fld Z h0 a1 "com/example/siphon/siphon/net/Incidence$Link" "give" "J" (.long w2)) :
    MetFree l (⟨"com/example/siphon/siphon/net/Incidence$Link", "isReading", "()Z"⟩ : MethodName) (head1 (Jvm.Cond.code (⟨"com/example/siphon/siphon/net/Incidence$Link", "isReading", "()Z"⟩ : MethodName) prog_30_method_2_code 1 (some .boolean) :: ws) ({ frames := 0, cells := 0, slots := 0, locals := 0 } : Room)) (fun a U => a = #[(.ref a1)] ∧ Z.Warmed39 U.vm ∧ U.heap = h0) (fun _ _ _ _ _ => True) (fun _ U o U' => ∃ v L, o = .returned v ∧ Q4 Z a1 w1 w2 h0 n0 v U'.heap L ∧ FrameEnd U o U' L ({ frames := 0, cells := 0, slots := 0, locals := 0 } : Room).cells ({ frames := 0, cells := 0, slots := 0, locals := 0 } : Room).slots) := by
  refine MetFree.of_bodySF (plainFor_of_name pn_1) hisR ?_
  intro p e s m args below meth c s₁ Bd hml0 hP hK
  obtain ⟨rfl, hZ, hh⟩ := hP
  have hx := Bd.exec
  have hby := Bd.bytes
  have hml : c.maxLocals = 1 := hml0
  have hown : s.vm.findClass "com/example/siphon/siphon/net/Incidence$Link" = some m.cls := findClass_of_methodNamed Bd.named
  have hnm := (name_of_methodNamed Bd.named Bd.method).1
  have X0 : Stand p l e ({ frames := 0, cells := 0, slots := 0, locals := 0 } : Room) s m #[(.ref a1)] below meth c s₁ [] 0 0 := Stand.of_body Bd
  have e0 : s₁.heap = h0 := by rw [← hh, Bd.state]; rfl
  have N0 := Fr.nil n0
  have pre0 : ∀ t, Steps p.tables e below (s₁.setTop (mkF m 0 #[.val (.ref a1)] [])) t → Steps p.tables e below (s₁.setTop (entryFrame m #[(.ref a1)] 1)) t := fun t k => castTop (ef_4 m a1) k
  obtain ⟨T1, X1, e1, st1⟩ := getF X0 hx hZ hown (host := "") (Or.inl (hw _ (List.mem_of_getElem? (i := 18) rfl))) Via.refl e0 F_a1_take (g := (mkF m 1 #[.val (.ref a1)] [(.ref a1)])) rfl rfl (hb hby d4_1)
  obtain ⟨T2, X2, e2, st2⟩ := getF X1 hx hZ hown (host := "") (Or.inl (hw _ (List.mem_of_getElem? (i := 20) rfl))) Via.refl e1 F_a1_give (g := (mkF m 5 #[.val (.ref a1)] [(.ref a1), (.long w1)])) rfl rfl (hb hby d4_5)
  have pre3 : ∀ t, Steps p.tables e below (T2.setTop (mkF m 9 #[.val (.ref a1)] [(.int (lcmpW w1 w2))])) t → Steps p.tables e below (s₁.setTop (entryFrame m #[(.ref a1)] 1)) t := fun t k => pre0 t (by
    show Steps p.tables e below (s₁.setTop (mkF m 0 #[.val (.ref a1)] [])) _
    refine XS.aloadN X0.here hx rfl (hb hby d4_0) rfl rfl ?_
    show Steps p.tables e below (s₁.setTop (mkF m 1 #[.val (.ref a1)] [(.ref a1)])) _
    refine st1 _ ?_
    show Steps p.tables e below (T1.setTop (mkF m 4 #[.val (.ref a1)] [(.long w1)])) _
    refine XS.aloadN X1.here hx rfl (hb hby d4_4) rfl rfl ?_
    show Steps p.tables e below (T1.setTop (mkF m 5 #[.val (.ref a1)] [(.ref a1), (.long w1)])) _
    refine st2 _ ?_
    show Steps p.tables e below (T2.setTop (mkF m 8 #[.val (.ref a1)] [(.long w2), (.long w1)])) _
    refine XS.lcmp X2.here hx rfl (hb hby d4_8) rfl ?_
    exact k)
  by_cases hc4 : (lcmpW w1 w2) = (0 : Int32)
  · obtain ⟨fs, hr, hrun, hended, hW, hsame⟩ := X2.leave (v := some (.int (1 : Int32))) (fun h => by rw [Bd.returns] at h; cases h)
    refine ⟨_, _, pre3 _ ?_, hrun, hended, _, _, rfl, ?_, ⟨_, rfl⟩, hW, hsame.mono (by decide) (by decide)⟩
    · show Steps p.tables e below (T2.setTop (mkF m 9 #[.val (.ref a1)] [(.int (lcmpW w1 w2))])) _
      refine XS.ifNo X2.here hx rfl (hb hby d4_9) rfl ((if0 _ _).trans (teq hc4).2) ?_
      show Steps p.tables e below (T2.setTop (mkF m 12 #[.val (.ref a1)] [])) _
      refine XS.iconst X2.here hx rfl (hb hby d4_12) ?_
      show Steps p.tables e below (T2.setTop (mkF m 13 #[.val (.ref a1)] [(.int (1 : Int32))])) _
      refine XS.goto X2.here hx rfl (pc0 := 13) (pc' := 17) rfl (hb hby d4_13) (by decide) (by decide) ?_
      show Steps p.tables e below (T2.setTop (mkF m 17 #[.val (.ref a1)] [(.int (1 : Int32))])) _
      exact retN X2 hx (t := .boolean) Bd.returns (by simp) (hb hby d4_17) hr
    · show Q4 Z a1 w1 w2 h0 n0 _ T2.heap _
      rw [e2]
      exact ⟨by rw [show (f4 w1 w2) = (1 : Int32) from by first | (rw [f4, if_pos hc4]; done) | (simp only [f4, if_pos hc4]; done) | rfl], N0, rfl⟩
  · obtain ⟨fs, hr, hrun, hended, hW, hsame⟩ := X2.leave (v := some (.int (0 : Int32))) (fun h => by rw [Bd.returns] at h; cases h)
    refine ⟨_, _, pre3 _ ?_, hrun, hended, _, _, rfl, ?_, ⟨_, rfl⟩, hW, hsame.mono (by decide) (by decide)⟩
    · show Steps p.tables e below (T2.setTop (mkF m 9 #[.val (.ref a1)] [(.int (lcmpW w1 w2))])) _
      refine XS.ifYes X2.here hx rfl (pc0 := 9) (pc' := 16) rfl (hb hby d4_9) rfl ((if0 _ _).trans (feq hc4).2) (by decide) (by decide) ?_
      show Steps p.tables e below (T2.setTop (mkF m 16 #[.val (.ref a1)] [])) _
      refine XS.iconst X2.here hx rfl (hb hby d4_16) ?_
      show Steps p.tables e below (T2.setTop (mkF m 17 #[.val (.ref a1)] [(.int (0 : Int32))])) _
      exact retN X2 hx (t := .boolean) Bd.returns (by simp) (hb hby d4_17) hr
    · show Q4 Z a1 w1 w2 h0 n0 _ T2.heap _
      rw [e2]
      exact ⟨by rw [show (f4 w1 w2) = (0 : Int32) from by first | (rw [f4, if_neg hc4]; done) | (simp only [f4, if_neg hc4]; done) | rfl], N0, rfl⟩
theorem pd_1 : parseMethodDescriptor "(IIJJ)V" = some ⟨[.int, .int, .long, .long], none⟩ := by decide +kernel
theorem pd_2 : parseMethodDescriptor "()Z" = some ⟨[], some .boolean⟩ := by decide +kernel
theorem pn_2 : plainName "com/example/siphon/siphon/net/LinkIsReadingPinLaw" = true := by first | (simp [plainName, overriddenIn]; done) | decide +kernel
def m0_2_0 (q4 : Int64) : Int64 := (if (lcmpW q4 (0 : Int64)) = (0 : Int32) then (1 : Int64) else q4)
def f0 (q3 : Int64) (q4 : Int64) : Int32 := if (f4 q3 q3) = (0 : Int32) then (0 : Int32) else if (f4 q3 (q3 + (m0_2_0 q4))) = (0 : Int32) then if (f4 (q3 + (m0_2_0 q4)) q3) = (0 : Int32) then (1 : Int32) else (0 : Int32) else (0 : Int32)
theorem ef_0 (m : MethodId) (x0 : Int32) (x1 : Int32) (x2 : Int64) (x3 : Int64) : entryFrame m #[(.int x0), (.int x1), (.long x2), (.long x3)] maxLocals = mkF m 0 #[.val (.int x0), .val (.int x1), .val (.long x2), .second, .val (.long x3), .second, .unset, .unset, .unset, .unset, .unset, .unset, .unset, .unset, .unset, .unset] [] := by first | (simp [entryFrame, mkF, argsToLocals, Value.category, maxLocals]; done) | rfl
def Q0 (Z : State) (p1 : Int32) (p2 : Int32) (q3 : Int64) (q4 : Int64) (h0 : Heap) (n0 : Nat) (v : Option Value) (h : Heap) (L : List Loc) : Prop := v = some (.int (f0 q3 q4)) ∧ Fr n0 L
set_option maxRecDepth 65536 in
set_option maxHeartbeats 40000000 in
theorem rm0 (l : Launch) (Z : State) (a0 : Array Value) (hw : ∀ d ∈ tables_1, d.before a0 Z = true) (ws : List Jvm.Cond) (p1 : Int32) (p2 : Int32) (q3 : Int64) (q4 : Int64) (h0 : Heap) (n0 : Nat) (Z0 : n0 ≤ h0.size) :
    MetFree l x (head1 (Jvm.Cond.code x code maxLocals ret :: ws) room_1) (fun a U => a = #[(.int p1), (.int p2), (.long q3), (.long q4)] ∧ Z.Warmed39 U.vm ∧ U.heap = h0) (fun _ _ _ _ _ => True) (fun _ U o U' => ∃ v L, o = .returned v ∧ Q0 Z p1 p2 q3 q4 h0 n0 v U'.heap L ∧ FrameEnd U o U' L room_1.cells room_1.slots) := by
  refine MetFree.of_bodySF (plainFor_of_name pn_2) hisR ?_
  intro p e s m args below meth c s₁ Bd hml0 hP hK
  obtain ⟨rfl, hZ, hh⟩ := hP
  have hx := Bd.exec
  have hby := Bd.bytes
  have hml : c.maxLocals = 16 := hml0
  have hown : s.vm.findClass "com/example/siphon/siphon/net/LinkIsReadingPinLaw" = some m.cls := findClass_of_methodNamed Bd.named
  have hnm := (name_of_methodNamed Bd.named Bd.method).1
  have X0 : Stand p l e room_1 s m #[(.int p1), (.int p2), (.long q3), (.long q4)] below meth c s₁ [] 0 0 := Stand.of_body Bd
  have e0 : s₁.heap = h0 := by rw [← hh, Bd.state]; rfl
  have N0 := Fr.nil n0
  have pre0 : ∀ t, Steps p.tables e below (s₁.setTop (mkF m 0 #[.val (.int p1), .val (.int p2), .val (.long q3), .second, .val (.long q4), .second, .unset, .unset, .unset, .unset, .unset, .unset, .unset, .unset, .unset, .unset] [])) t → Steps p.tables e below (s₁.setTop (entryFrame m #[(.int p1), (.int p2), (.long q3), (.long q4)] maxLocals)) t := fun t k => castTop (ef_0 m p1 p2 q3 q4) k
  have pre1 : ∀ t, Steps p.tables e below (s₁.setTop (mkF m 4 #[.val (.int p1), .val (.int p2), .val (.long q3), .second, .val (.long q4), .second, .unset, .unset, .unset, .unset, .unset, .unset, .unset, .unset, .unset, .unset] [(.int (lcmpW q4 (0 : Int64)))])) t → Steps p.tables e below (s₁.setTop (entryFrame m #[(.int p1), (.int p2), (.long q3), (.long q4)] maxLocals)) t := fun t k => pre0 t (by
    show Steps p.tables e below (s₁.setTop (mkF m 0 #[.val (.int p1), .val (.int p2), .val (.long q3), .second, .val (.long q4), .second, .unset, .unset, .unset, .unset, .unset, .unset, .unset, .unset, .unset, .unset] [])) _
    refine XS.lload X0.here hx rfl (hb hby at_0) rfl ?_
    show Steps p.tables e below (s₁.setTop (mkF m 2 #[.val (.int p1), .val (.int p2), .val (.long q3), .second, .val (.long q4), .second, .unset, .unset, .unset, .unset, .unset, .unset, .unset, .unset, .unset, .unset] [(.long q4)])) _
    refine XS.lconst X0.here hx rfl (hb hby at_2) ?_
    show Steps p.tables e below (s₁.setTop (mkF m 3 #[.val (.int p1), .val (.int p2), .val (.long q3), .second, .val (.long q4), .second, .unset, .unset, .unset, .unset, .unset, .unset, .unset, .unset, .unset, .unset] [(.long (0 : Int64)), (.long q4)])) _
    refine XS.lcmp X0.here hx rfl (hb hby at_3) rfl ?_
    exact k)
  have pre2 : ∀ t, Steps p.tables e below (s₁.setTop (mkF m 13 #[.val (.int p1), .val (.int p2), .val (.long q3), .second, .val (.long q4), .second, .unset, .unset, .unset, .unset, .unset, .unset, .unset, .unset, .unset, .unset] [(.long (m0_2_0 q4))])) t → Steps p.tables e below (s₁.setTop (entryFrame m #[(.int p1), (.int p2), (.long q3), (.long q4)] maxLocals)) t := by
    intro t k
    by_cases hc3 : (lcmpW q4 (0 : Int64)) = (0 : Int32)
    · rw [show (m0_2_0 q4) = (1 : Int64) from by first | (rw [m0_2_0, if_pos hc3]; done) | (simp only [m0_2_0, if_pos hc3]; done) | rfl] at k
      refine pre1 t ?_
      show Steps p.tables e below (s₁.setTop (mkF m 4 #[.val (.int p1), .val (.int p2), .val (.long q3), .second, .val (.long q4), .second, .unset, .unset, .unset, .unset, .unset, .unset, .unset, .unset, .unset, .unset] [(.int (lcmpW q4 (0 : Int64)))])) _
      refine XS.ifNo X0.here hx rfl (hb hby at_4) rfl ((if0 _ _).trans (teq hc3).2) ?_
      show Steps p.tables e below (s₁.setTop (mkF m 7 #[.val (.int p1), .val (.int p2), .val (.long q3), .second, .val (.long q4), .second, .unset, .unset, .unset, .unset, .unset, .unset, .unset, .unset, .unset, .unset] [])) _
      refine XS.lconst X0.here hx rfl (hb hby at_7) ?_
      show Steps p.tables e below (s₁.setTop (mkF m 8 #[.val (.int p1), .val (.int p2), .val (.long q3), .second, .val (.long q4), .second, .unset, .unset, .unset, .unset, .unset, .unset, .unset, .unset, .unset, .unset] [(.long (1 : Int64))])) _
      refine XS.goto X0.here hx rfl (pc0 := 8) (pc' := 13) rfl (hb hby at_8) (by decide) (by decide) ?_
      exact k
    · rw [show (m0_2_0 q4) = q4 from by first | (rw [m0_2_0, if_neg hc3]; done) | (simp only [m0_2_0, if_neg hc3]; done) | rfl] at k
      refine pre1 t ?_
      show Steps p.tables e below (s₁.setTop (mkF m 4 #[.val (.int p1), .val (.int p2), .val (.long q3), .second, .val (.long q4), .second, .unset, .unset, .unset, .unset, .unset, .unset, .unset, .unset, .unset, .unset] [(.int (lcmpW q4 (0 : Int64)))])) _
      refine XS.ifYes X0.here hx rfl (pc0 := 4) (pc' := 11) rfl (hb hby at_4) rfl ((if0 _ _).trans (feq hc3).2) (by decide) (by decide) ?_
      show Steps p.tables e below (s₁.setTop (mkF m 11 #[.val (.int p1), .val (.int p2), .val (.long q3), .second, .val (.long q4), .second, .unset, .unset, .unset, .unset, .unset, .unset, .unset, .unset, .unset, .unset] [])) _
      refine XS.lload X0.here hx rfl (hb hby at_11) rfl ?_
      exact k
  obtain ⟨T4, h4, X4, e4, E4, A4, D4, -, st4⟩ := newO X0 hx hZ hown (hw _ (List.mem_of_getElem? (i := 0) rfl)) (hw _ (List.mem_of_getElem? (i := 1) rfl)) (hw _ (List.mem_of_getElem? (i := 2) rfl)) e0 (g := (mkF m 21 #[.val (.int p1), .val (.int p2), .val (.long q3), .second, .val (.long q4), .second, .val (.long (m0_2_0 q4)), .second, .val (.long (q3 + (m0_2_0 q4))), .second, .unset, .unset, .unset, .unset, .unset, .unset] [])) rfl (hb hby at_21) (by decide) (by decide)
  obtain ⟨b4, g4⟩ : ∃ z, z = h0.size := ⟨_, rfl⟩
  rw [← g4] at A4 D4 st4
  have g_b4 : n0 ≤ b4 := Nat.le_trans Z0 (Nat.le_of_eq g4.symm)
  have sz_b4 : h0.size ≤ b4 := Nat.le_trans (Keep.refl h0 []).1 (Nat.le_of_eq g4.symm)
  have K4 : Keep h0 h4 [] := (Keep.refl h0 []).ext E4
  have F_b4_place : Fld Z h4 b4 "com/example/siphon/siphon/net/Incidence$Link" "place" "I" (.int (0 : Int32)) := D4 (Or.inr (hw _ (List.mem_of_getElem? (i := 15) rfl))) (ty := .int) (by decide)
  have F_b4_transition : Fld Z h4 b4 "com/example/siphon/siphon/net/Incidence$Link" "transition" "I" (.int (0 : Int32)) := D4 (Or.inr (hw _ (List.mem_of_getElem? (i := 17) rfl))) (ty := .int) (by decide)
  have F_b4_take : Fld Z h4 b4 "com/example/siphon/siphon/net/Incidence$Link" "take" "J" (.long (0 : Int64)) := D4 (Or.inr (hw _ (List.mem_of_getElem? (i := 19) rfl))) (ty := .long) (by decide)
  have F_b4_give : Fld Z h4 b4 "com/example/siphon/siphon/net/Incidence$Link" "give" "J" (.long (0 : Int64)) := D4 (Or.inr (hw _ (List.mem_of_getElem? (i := 21) rfl))) (ty := .long) (by decide)
  obtain ⟨_, _, ⟨T5, L5, k5, n5⟩, -, X5, ⟨Lc5, hQ5, l5, y5, z5⟩, st5⟩ := X4.specialBack hx (y := (⟨"com/example/siphon/siphon/net/Incidence$Link", "<init>", "(IIJJ)V"⟩ : MethodName)) rfl hown (mvT hZ (hw _ (List.mem_of_getElem? (i := 3) rfl))) (mvT hZ (hw _ (List.mem_of_getElem? (i := 4) rfl))) (mvT hZ (hw _ (List.mem_of_getElem? (i := 5) rfl))) (by decide) (backOf (W := 1) (rm1 l Z a0 hw [] b4 p1 p2 q3 q3 h4 n0 (Nat.le_trans Z0 K4.1) A4 g_b4 F_b4_place F_b4_transition F_b4_take F_b4_give) hZ (hw _ (List.mem_of_getElem? (i := 5) rfl)) (hw _ (List.mem_of_getElem? (i := 2) rfl)) (by decide) (by decide)) (g := (mkF m 29 #[.val (.int p1), .val (.int p2), .val (.long q3), .second, .val (.long q4), .second, .val (.long (m0_2_0 q4)), .second, .val (.long (q3 + (m0_2_0 q4))), .second, .unset, .unset, .unset, .unset, .unset, .unset] [(.long q3), (.long q3), (.int p2), (.int p1), (.ref b4), (.ref b4)])) rfl (by rw [hml]; rfl) (Steps.refl _) (a := b4) (argsL := [(.int p1), (.int p2), (.long q3), (.long q3)]) (rest := [(.ref b4)]) (lenOf pd_1 rfl) rfl (by show 2 * 0 + _ ≤ _; exact Nat.le_of_eq rfl) (hb hby at_29) (fun _ _ => ⟨rfl, e4, (by decide : 1 + 0 ≤ _), (by decide : 4 + 0 ≤ _)⟩)
  dsimp only [Pt.U, Pt.locs, Pt.cells, Pt.slots] at X5 l5 y5 z5 st5 hQ5
  subst l5 y5 z5
  obtain ⟨rfl, N5q, K5, P5_0, P5_1, P5_2, P5_3⟩ := hQ5
  have K6 : Keep h0 T5.heap [] := K4.trans K5 (allS (Or.inr sz_b4) all0)
  have N5 := Fr.app N0 N5q
  obtain ⟨T7, h7, X7, e7, E7, A7, D7, -, st7⟩ := newO X5 hx hZ hown (hw _ (List.mem_of_getElem? (i := 0) rfl)) (hw _ (List.mem_of_getElem? (i := 1) rfl)) (hw _ (List.mem_of_getElem? (i := 2) rfl)) rfl (g := (mkF m 34 #[.val (.int p1), .val (.int p2), .val (.long q3), .second, .val (.long q4), .second, .val (.long (m0_2_0 q4)), .second, .val (.long (q3 + (m0_2_0 q4))), .second, .val (.ref b4), .unset, .unset, .unset, .unset, .unset] [])) rfl (hb hby at_34) (by decide) (by decide)
  obtain ⟨b7, g7⟩ : ∃ z, z = T5.heap.size := ⟨_, rfl⟩
  rw [← g7] at A7 D7 st7
  have F8 := (A4.keep K5)
  have ne9 : b4 ≠ b7 := Nat.ne_of_lt (Nat.lt_of_lt_of_le F8.lt (Nat.le_of_eq g7.symm))
  have g_b7 : n0 ≤ b7 := Nat.le_trans (Nat.le_trans Z0 K6.1) (Nat.le_of_eq g7.symm)
  have sz_b7 : h0.size ≤ b7 := Nat.le_trans K6.1 (Nat.le_of_eq g7.symm)
  have K7 : Keep h0 h7 [] := K6.ext E7
  have F_b7_place : Fld Z h7 b7 "com/example/siphon/siphon/net/Incidence$Link" "place" "I" (.int (0 : Int32)) := D7 (Or.inr (hw _ (List.mem_of_getElem? (i := 15) rfl))) (ty := .int) (by decide)
  have F_b7_transition : Fld Z h7 b7 "com/example/siphon/siphon/net/Incidence$Link" "transition" "I" (.int (0 : Int32)) := D7 (Or.inr (hw _ (List.mem_of_getElem? (i := 17) rfl))) (ty := .int) (by decide)
  have F_b7_take : Fld Z h7 b7 "com/example/siphon/siphon/net/Incidence$Link" "take" "J" (.long (0 : Int64)) := D7 (Or.inr (hw _ (List.mem_of_getElem? (i := 19) rfl))) (ty := .long) (by decide)
  have F_b7_give : Fld Z h7 b7 "com/example/siphon/siphon/net/Incidence$Link" "give" "J" (.long (0 : Int64)) := D7 (Or.inr (hw _ (List.mem_of_getElem? (i := 21) rfl))) (ty := .long) (by decide)
  obtain ⟨_, _, ⟨T10, L10, k10, n10⟩, -, X10, ⟨Lc10, hQ10, l10, y10, z10⟩, st10⟩ := X7.specialBack hx (y := (⟨"com/example/siphon/siphon/net/Incidence$Link", "<init>", "(IIJJ)V"⟩ : MethodName)) rfl hown (mvT hZ (hw _ (List.mem_of_getElem? (i := 3) rfl))) (mvT hZ (hw _ (List.mem_of_getElem? (i := 4) rfl))) (mvT hZ (hw _ (List.mem_of_getElem? (i := 5) rfl))) (by decide) (backOf (W := 1) (rm1 l Z a0 hw [] b7 p1 p2 q3 (q3 + (m0_2_0 q4)) h7 n0 (Nat.le_trans Z0 K7.1) A7 g_b7 F_b7_place F_b7_transition F_b7_take F_b7_give) hZ (hw _ (List.mem_of_getElem? (i := 5) rfl)) (hw _ (List.mem_of_getElem? (i := 2) rfl)) (by decide) (by decide)) (g := (mkF m 43 #[.val (.int p1), .val (.int p2), .val (.long q3), .second, .val (.long q4), .second, .val (.long (m0_2_0 q4)), .second, .val (.long (q3 + (m0_2_0 q4))), .second, .val (.ref b4), .unset, .unset, .unset, .unset, .unset] [(.long (q3 + (m0_2_0 q4))), (.long q3), (.int p2), (.int p1), (.ref b7), (.ref b7)])) rfl (by rw [hml]; rfl) (Steps.refl _) (a := b7) (argsL := [(.int p1), (.int p2), (.long q3), (.long (q3 + (m0_2_0 q4)))]) (rest := [(.ref b7)]) (lenOf pd_1 rfl) rfl (by show 2 * 0 + _ ≤ _; exact Nat.le_of_eq rfl) (hb hby at_43) (fun _ _ => ⟨rfl, e7, (by decide : 2 + 0 ≤ _), (by decide : 8 + 0 ≤ _)⟩)
  dsimp only [Pt.U, Pt.locs, Pt.cells, Pt.slots] at X10 l10 y10 z10 st10 hQ10
  subst l10 y10 z10
  obtain ⟨rfl, N10q, K10, P10_0, P10_1, P10_2, P10_3⟩ := hQ10
  have K11 : Keep h0 T10.heap [] := K7.trans K10 (allS (Or.inr sz_b7) all0)
  have N10 := Fr.app N5 N10q
  obtain ⟨T12, h12, X12, e12, E12, A12, D12, -, st12⟩ := newO X10 hx hZ hown (hw _ (List.mem_of_getElem? (i := 0) rfl)) (hw _ (List.mem_of_getElem? (i := 1) rfl)) (hw _ (List.mem_of_getElem? (i := 2) rfl)) rfl (g := (mkF m 48 #[.val (.int p1), .val (.int p2), .val (.long q3), .second, .val (.long q4), .second, .val (.long (m0_2_0 q4)), .second, .val (.long (q3 + (m0_2_0 q4))), .second, .val (.ref b4), .val (.ref b7), .unset, .unset, .unset, .unset] [])) rfl (hb hby at_48) (by decide) (by decide)
  obtain ⟨b12, g12⟩ : ∃ z, z = T10.heap.size := ⟨_, rfl⟩
  rw [← g12] at A12 D12 st12
  have F13 := ((F8.ext E7).keep K10)
  have ne14 : b4 ≠ b12 := Nat.ne_of_lt (Nat.lt_of_lt_of_le F13.lt (Nat.le_of_eq g12.symm))
  have F15 := (A7.keep K10)
  have ne16 : b7 ≠ b12 := Nat.ne_of_lt (Nat.lt_of_lt_of_le F15.lt (Nat.le_of_eq g12.symm))
  have g_b12 : n0 ≤ b12 := Nat.le_trans (Nat.le_trans Z0 K11.1) (Nat.le_of_eq g12.symm)
  have sz_b12 : h0.size ≤ b12 := Nat.le_trans K11.1 (Nat.le_of_eq g12.symm)
  have K12 : Keep h0 h12 [] := K11.ext E12
  have F_b12_place : Fld Z h12 b12 "com/example/siphon/siphon/net/Incidence$Link" "place" "I" (.int (0 : Int32)) := D12 (Or.inr (hw _ (List.mem_of_getElem? (i := 15) rfl))) (ty := .int) (by decide)
  have F_b12_transition : Fld Z h12 b12 "com/example/siphon/siphon/net/Incidence$Link" "transition" "I" (.int (0 : Int32)) := D12 (Or.inr (hw _ (List.mem_of_getElem? (i := 17) rfl))) (ty := .int) (by decide)
  have F_b12_take : Fld Z h12 b12 "com/example/siphon/siphon/net/Incidence$Link" "take" "J" (.long (0 : Int64)) := D12 (Or.inr (hw _ (List.mem_of_getElem? (i := 19) rfl))) (ty := .long) (by decide)
  have F_b12_give : Fld Z h12 b12 "com/example/siphon/siphon/net/Incidence$Link" "give" "J" (.long (0 : Int64)) := D12 (Or.inr (hw _ (List.mem_of_getElem? (i := 21) rfl))) (ty := .long) (by decide)
  obtain ⟨_, _, ⟨T17, L17, k17, n17⟩, -, X17, ⟨Lc17, hQ17, l17, y17, z17⟩, st17⟩ := X12.specialBack hx (y := (⟨"com/example/siphon/siphon/net/Incidence$Link", "<init>", "(IIJJ)V"⟩ : MethodName)) rfl hown (mvT hZ (hw _ (List.mem_of_getElem? (i := 3) rfl))) (mvT hZ (hw _ (List.mem_of_getElem? (i := 4) rfl))) (mvT hZ (hw _ (List.mem_of_getElem? (i := 5) rfl))) (by decide) (backOf (W := 1) (rm1 l Z a0 hw [] b12 p1 p2 (q3 + (m0_2_0 q4)) q3 h12 n0 (Nat.le_trans Z0 K12.1) A12 g_b12 F_b12_place F_b12_transition F_b12_take F_b12_give) hZ (hw _ (List.mem_of_getElem? (i := 5) rfl)) (hw _ (List.mem_of_getElem? (i := 2) rfl)) (by decide) (by decide)) (g := (mkF m 57 #[.val (.int p1), .val (.int p2), .val (.long q3), .second, .val (.long q4), .second, .val (.long (m0_2_0 q4)), .second, .val (.long (q3 + (m0_2_0 q4))), .second, .val (.ref b4), .val (.ref b7), .unset, .unset, .unset, .unset] [(.long q3), (.long (q3 + (m0_2_0 q4))), (.int p2), (.int p1), (.ref b12), (.ref b12)])) rfl (by rw [hml]; rfl) (Steps.refl _) (a := b12) (argsL := [(.int p1), (.int p2), (.long (q3 + (m0_2_0 q4))), (.long q3)]) (rest := [(.ref b12)]) (lenOf pd_1 rfl) rfl (by show 2 * 0 + _ ≤ _; exact Nat.le_of_eq rfl) (hb hby at_57) (fun _ _ => ⟨rfl, e12, (by decide : 3 + 0 ≤ _), (by decide : 12 + 0 ≤ _)⟩)
  dsimp only [Pt.U, Pt.locs, Pt.cells, Pt.slots] at X17 l17 y17 z17 st17 hQ17
  subst l17 y17 z17
  obtain ⟨rfl, N17q, K17, P17_0, P17_1, P17_2, P17_3⟩ := hQ17
  have K18 : Keep h0 T17.heap [] := K12.trans K17 (allS (Or.inr sz_b12) all0)
  have N17 := Fr.app N10 N17q
  have F19 := ((((P5_2.ext E7).keep K10 (ninS ne9 nin0)).ext E12).keep K17 (ninS ne14 nin0))
  have F20 := ((((P5_3.ext E7).keep K10 (ninS ne9 nin0)).ext E12).keep K17 (ninS ne14 nin0))
  have F22 := ((F13.ext E12).keep K17)
  obtain ⟨cq21, kq21, q21a, q21b, q21c⟩ := isOf hZ rfl F22
  obtain ⟨_, _, ⟨T21, L21, k21, n21⟩, -, X21, ⟨Lc21, hQ21, l21, y21, z21⟩, st21⟩ := X17.virtualBack hx (y := (⟨"com/example/siphon/siphon/net/Incidence$Link", "isReading", "()Z"⟩ : MethodName)) (z := (⟨"com/example/siphon/siphon/net/Incidence$Link", "isReading", "()Z"⟩ : MethodName)) hown (mvT hZ (hw _ (List.mem_of_getElem? (i := 22) rfl))) (mvT hZ (hw _ (List.mem_of_getElem? (i := 23) rfl))) (notFace_of_selects (args := #[]) (mvT hZ (hw _ (List.mem_of_getElem? (i := 25) rfl)))) (mvT hZ (hw _ (List.mem_of_getElem? (i := 25) rfl))) (mvT hZ (hw _ (List.mem_of_getElem? (i := 24) rfl))) (by decide) (backOf (W := 0) (rm4 l Z a0 hw [] b4 q3 q3 (T17.heap) n0 (Nat.le_trans Z0 K18.1) F19 F20) hZ (hw _ (List.mem_of_getElem? (i := 26) rfl)) (hw _ (List.mem_of_getElem? (i := 2) rfl)) (by decide) (by decide)) q21a q21c (g := (mkF m 64 #[.val (.int p1), .val (.int p2), .val (.long q3), .second, .val (.long q4), .second, .val (.long (m0_2_0 q4)), .second, .val (.long (q3 + (m0_2_0 q4))), .second, .val (.ref b4), .val (.ref b7), .val (.ref b12), .unset, .unset, .unset] [(.ref b4)])) rfl (by rw [hml]; rfl) (Steps.refl _) (argsL := []) (rest := []) (lenOf pd_2 rfl) rfl (by show 2 * 0 + _ ≤ _; exact Nat.le_of_eq rfl) (hb hby at_64) (fun _ _ => ⟨rfl, rfl, (by decide : 3 + 0 ≤ _), (by decide : 12 + 0 ≤ _)⟩)
  dsimp only [Pt.U, Pt.locs, Pt.cells, Pt.slots] at X21 l21 y21 z21 st21 hQ21
  subst l21 y21 z21
  obtain ⟨rfl, N21q, e21⟩ := hQ21
  have N21 := Fr.app N17 N21q
  have F23 := ((P10_2.ext E12).keep K17 (ninS ne16 nin0))
  have F24 := ((P10_3.ext E12).keep K17 (ninS ne16 nin0))
  have F26 := ((F15.ext E12).keep K17)
  obtain ⟨cq25, kq25, q25a, q25b, q25c⟩ := isOf hZ e21 F26
  obtain ⟨_, _, ⟨T25, L25, k25, n25⟩, -, X25, ⟨Lc25, hQ25, l25, y25, z25⟩, st25⟩ := X21.virtualBack hx (y := (⟨"com/example/siphon/siphon/net/Incidence$Link", "isReading", "()Z"⟩ : MethodName)) (z := (⟨"com/example/siphon/siphon/net/Incidence$Link", "isReading", "()Z"⟩ : MethodName)) hown (mvT hZ (hw _ (List.mem_of_getElem? (i := 22) rfl))) (mvT hZ (hw _ (List.mem_of_getElem? (i := 23) rfl))) (notFace_of_selects (args := #[]) (mvT hZ (hw _ (List.mem_of_getElem? (i := 25) rfl)))) (mvT hZ (hw _ (List.mem_of_getElem? (i := 25) rfl))) (mvT hZ (hw _ (List.mem_of_getElem? (i := 24) rfl))) (by decide) (backOf (W := 0) (rm4 l Z a0 hw [] b7 q3 (q3 + (m0_2_0 q4)) (T17.heap) n0 (Nat.le_trans Z0 K18.1) F23 F24) hZ (hw _ (List.mem_of_getElem? (i := 26) rfl)) (hw _ (List.mem_of_getElem? (i := 2) rfl)) (by decide) (by decide)) q25a q25c (g := (mkF m 71 #[.val (.int p1), .val (.int p2), .val (.long q3), .second, .val (.long q4), .second, .val (.long (m0_2_0 q4)), .second, .val (.long (q3 + (m0_2_0 q4))), .second, .val (.ref b4), .val (.ref b7), .val (.ref b12), .val (.int (f4 q3 q3)), .unset, .unset] [(.ref b7)])) rfl (by rw [hml]; rfl) (Steps.refl _) (argsL := []) (rest := []) (lenOf pd_2 rfl) rfl (by show 2 * 0 + _ ≤ _; exact Nat.le_of_eq rfl) (hb hby at_71) (fun _ _ => ⟨rfl, e21, (by decide : 3 + 0 ≤ _), (by decide : 12 + 0 ≤ _)⟩)
  dsimp only [Pt.U, Pt.locs, Pt.cells, Pt.slots] at X25 l25 y25 z25 st25 hQ25
  subst l25 y25 z25
  obtain ⟨rfl, N25q, e25⟩ := hQ25
  have N25 := Fr.app N21 N25q
  have F28 := (A12.keep K17)
  obtain ⟨cq27, kq27, q27a, q27b, q27c⟩ := isOf hZ e25 F28
  obtain ⟨_, _, ⟨T27, L27, k27, n27⟩, -, X27, ⟨Lc27, hQ27, l27, y27, z27⟩, st27⟩ := X25.virtualBack hx (y := (⟨"com/example/siphon/siphon/net/Incidence$Link", "isReading", "()Z"⟩ : MethodName)) (z := (⟨"com/example/siphon/siphon/net/Incidence$Link", "isReading", "()Z"⟩ : MethodName)) hown (mvT hZ (hw _ (List.mem_of_getElem? (i := 22) rfl))) (mvT hZ (hw _ (List.mem_of_getElem? (i := 23) rfl))) (notFace_of_selects (args := #[]) (mvT hZ (hw _ (List.mem_of_getElem? (i := 25) rfl)))) (mvT hZ (hw _ (List.mem_of_getElem? (i := 25) rfl))) (mvT hZ (hw _ (List.mem_of_getElem? (i := 24) rfl))) (by decide) (backOf (W := 0) (rm4 l Z a0 hw [] b12 (q3 + (m0_2_0 q4)) q3 (T17.heap) n0 (Nat.le_trans Z0 K18.1) P17_2 P17_3) hZ (hw _ (List.mem_of_getElem? (i := 26) rfl)) (hw _ (List.mem_of_getElem? (i := 2) rfl)) (by decide) (by decide)) q27a q27c (g := (mkF m 78 #[.val (.int p1), .val (.int p2), .val (.long q3), .second, .val (.long q4), .second, .val (.long (m0_2_0 q4)), .second, .val (.long (q3 + (m0_2_0 q4))), .second, .val (.ref b4), .val (.ref b7), .val (.ref b12), .val (.int (f4 q3 q3)), .val (.int (f4 q3 (q3 + (m0_2_0 q4)))), .unset] [(.ref b12)])) rfl (by rw [hml]; rfl) (Steps.refl _) (argsL := []) (rest := []) (lenOf pd_2 rfl) rfl (by show 2 * 0 + _ ≤ _; exact Nat.le_of_eq rfl) (hb hby at_78) (fun _ _ => ⟨rfl, e25, (by decide : 3 + 0 ≤ _), (by decide : 12 + 0 ≤ _)⟩)
  dsimp only [Pt.U, Pt.locs, Pt.cells, Pt.slots] at X27 l27 y27 z27 st27 hQ27
  subst l27 y27 z27
  obtain ⟨rfl, N27q, e27⟩ := hQ27
  have N27 := Fr.app N25 N27q
  have pre29 : ∀ t, Steps p.tables e below (T27.setTop (mkF m 85 #[.val (.int p1), .val (.int p2), .val (.long q3), .second, .val (.long q4), .second, .val (.long (m0_2_0 q4)), .second, .val (.long (q3 + (m0_2_0 q4))), .second, .val (.ref b4), .val (.ref b7), .val (.ref b12), .val (.int (f4 q3 q3)), .val (.int (f4 q3 (q3 + (m0_2_0 q4)))), .val (.int (f4 (q3 + (m0_2_0 q4)) q3))] [(.int (f4 q3 q3))])) t → Steps p.tables e below (s₁.setTop (entryFrame m #[(.int p1), (.int p2), (.long q3), (.long q4)] maxLocals)) t := fun t k => pre2 t (by
    show Steps p.tables e below (s₁.setTop (mkF m 13 #[.val (.int p1), .val (.int p2), .val (.long q3), .second, .val (.long q4), .second, .unset, .unset, .unset, .unset, .unset, .unset, .unset, .unset, .unset, .unset] [(.long (m0_2_0 q4))])) _
    refine XS.lstore X0.here hx rfl (hb hby at_13) rfl (l' := #[.val (.int p1), .val (.int p2), .val (.long q3), .second, .val (.long q4), .second, .val (.long (m0_2_0 q4)), .second, .unset, .unset, .unset, .unset, .unset, .unset, .unset, .unset]) rfl ?_
    show Steps p.tables e below (s₁.setTop (mkF m 15 #[.val (.int p1), .val (.int p2), .val (.long q3), .second, .val (.long q4), .second, .val (.long (m0_2_0 q4)), .second, .unset, .unset, .unset, .unset, .unset, .unset, .unset, .unset] [])) _
    refine XS.lloadN X0.here hx rfl (hb hby at_15) rfl ?_
    show Steps p.tables e below (s₁.setTop (mkF m 16 #[.val (.int p1), .val (.int p2), .val (.long q3), .second, .val (.long q4), .second, .val (.long (m0_2_0 q4)), .second, .unset, .unset, .unset, .unset, .unset, .unset, .unset, .unset] [(.long q3)])) _
    refine XS.lload X0.here hx rfl (hb hby at_16) rfl ?_
    show Steps p.tables e below (s₁.setTop (mkF m 18 #[.val (.int p1), .val (.int p2), .val (.long q3), .second, .val (.long q4), .second, .val (.long (m0_2_0 q4)), .second, .unset, .unset, .unset, .unset, .unset, .unset, .unset, .unset] [(.long (m0_2_0 q4)), (.long q3)])) _
    refine XS.ladd X0.here hx rfl (hb hby at_18) rfl ?_
    show Steps p.tables e below (s₁.setTop (mkF m 19 #[.val (.int p1), .val (.int p2), .val (.long q3), .second, .val (.long q4), .second, .val (.long (m0_2_0 q4)), .second, .unset, .unset, .unset, .unset, .unset, .unset, .unset, .unset] [(.long (q3 + (m0_2_0 q4)))])) _
    refine XS.lstore X0.here hx rfl (hb hby at_19) rfl (l' := #[.val (.int p1), .val (.int p2), .val (.long q3), .second, .val (.long q4), .second, .val (.long (m0_2_0 q4)), .second, .val (.long (q3 + (m0_2_0 q4))), .second, .unset, .unset, .unset, .unset, .unset, .unset]) rfl ?_
    show Steps p.tables e below (s₁.setTop (mkF m 21 #[.val (.int p1), .val (.int p2), .val (.long q3), .second, .val (.long q4), .second, .val (.long (m0_2_0 q4)), .second, .val (.long (q3 + (m0_2_0 q4))), .second, .unset, .unset, .unset, .unset, .unset, .unset] [])) _
    refine st4 _ ?_
    show Steps p.tables e below (T4.setTop (mkF m 24 #[.val (.int p1), .val (.int p2), .val (.long q3), .second, .val (.long q4), .second, .val (.long (m0_2_0 q4)), .second, .val (.long (q3 + (m0_2_0 q4))), .second, .unset, .unset, .unset, .unset, .unset, .unset] [(.ref b4)])) _
    refine XS.dup X4.here hx rfl (hb hby at_24) rfl rfl ?_
    show Steps p.tables e below (T4.setTop (mkF m 25 #[.val (.int p1), .val (.int p2), .val (.long q3), .second, .val (.long q4), .second, .val (.long (m0_2_0 q4)), .second, .val (.long (q3 + (m0_2_0 q4))), .second, .unset, .unset, .unset, .unset, .unset, .unset] [(.ref b4), (.ref b4)])) _
    refine XS.iloadN X4.here hx rfl (hb hby at_25) rfl ?_
    show Steps p.tables e below (T4.setTop (mkF m 26 #[.val (.int p1), .val (.int p2), .val (.long q3), .second, .val (.long q4), .second, .val (.long (m0_2_0 q4)), .second, .val (.long (q3 + (m0_2_0 q4))), .second, .unset, .unset, .unset, .unset, .unset, .unset] [(.int p1), (.ref b4), (.ref b4)])) _
    refine XS.iloadN X4.here hx rfl (hb hby at_26) rfl ?_
    show Steps p.tables e below (T4.setTop (mkF m 27 #[.val (.int p1), .val (.int p2), .val (.long q3), .second, .val (.long q4), .second, .val (.long (m0_2_0 q4)), .second, .val (.long (q3 + (m0_2_0 q4))), .second, .unset, .unset, .unset, .unset, .unset, .unset] [(.int p2), (.int p1), (.ref b4), (.ref b4)])) _
    refine XS.lloadN X4.here hx rfl (hb hby at_27) rfl ?_
    show Steps p.tables e below (T4.setTop (mkF m 28 #[.val (.int p1), .val (.int p2), .val (.long q3), .second, .val (.long q4), .second, .val (.long (m0_2_0 q4)), .second, .val (.long (q3 + (m0_2_0 q4))), .second, .unset, .unset, .unset, .unset, .unset, .unset] [(.long q3), (.int p2), (.int p1), (.ref b4), (.ref b4)])) _
    refine XS.lloadN X4.here hx rfl (hb hby at_28) rfl ?_
    show Steps p.tables e below (T4.setTop (mkF m 29 #[.val (.int p1), .val (.int p2), .val (.long q3), .second, .val (.long q4), .second, .val (.long (m0_2_0 q4)), .second, .val (.long (q3 + (m0_2_0 q4))), .second, .unset, .unset, .unset, .unset, .unset, .unset] [(.long q3), (.long q3), (.int p2), (.int p1), (.ref b4), (.ref b4)])) _
    refine st5.trans ?_
    show Steps p.tables e below (T5.setTop (mkF m 32 #[.val (.int p1), .val (.int p2), .val (.long q3), .second, .val (.long q4), .second, .val (.long (m0_2_0 q4)), .second, .val (.long (q3 + (m0_2_0 q4))), .second, .unset, .unset, .unset, .unset, .unset, .unset] [(.ref b4)])) _
    refine XS.astore X5.here hx rfl (hb hby at_32) rfl rfl (l' := #[.val (.int p1), .val (.int p2), .val (.long q3), .second, .val (.long q4), .second, .val (.long (m0_2_0 q4)), .second, .val (.long (q3 + (m0_2_0 q4))), .second, .val (.ref b4), .unset, .unset, .unset, .unset, .unset]) rfl ?_
    show Steps p.tables e below (T5.setTop (mkF m 34 #[.val (.int p1), .val (.int p2), .val (.long q3), .second, .val (.long q4), .second, .val (.long (m0_2_0 q4)), .second, .val (.long (q3 + (m0_2_0 q4))), .second, .val (.ref b4), .unset, .unset, .unset, .unset, .unset] [])) _
    refine st7 _ ?_
    show Steps p.tables e below (T7.setTop (mkF m 37 #[.val (.int p1), .val (.int p2), .val (.long q3), .second, .val (.long q4), .second, .val (.long (m0_2_0 q4)), .second, .val (.long (q3 + (m0_2_0 q4))), .second, .val (.ref b4), .unset, .unset, .unset, .unset, .unset] [(.ref b7)])) _
    refine XS.dup X7.here hx rfl (hb hby at_37) rfl rfl ?_
    show Steps p.tables e below (T7.setTop (mkF m 38 #[.val (.int p1), .val (.int p2), .val (.long q3), .second, .val (.long q4), .second, .val (.long (m0_2_0 q4)), .second, .val (.long (q3 + (m0_2_0 q4))), .second, .val (.ref b4), .unset, .unset, .unset, .unset, .unset] [(.ref b7), (.ref b7)])) _
    refine XS.iloadN X7.here hx rfl (hb hby at_38) rfl ?_
    show Steps p.tables e below (T7.setTop (mkF m 39 #[.val (.int p1), .val (.int p2), .val (.long q3), .second, .val (.long q4), .second, .val (.long (m0_2_0 q4)), .second, .val (.long (q3 + (m0_2_0 q4))), .second, .val (.ref b4), .unset, .unset, .unset, .unset, .unset] [(.int p1), (.ref b7), (.ref b7)])) _
    refine XS.iloadN X7.here hx rfl (hb hby at_39) rfl ?_
    show Steps p.tables e below (T7.setTop (mkF m 40 #[.val (.int p1), .val (.int p2), .val (.long q3), .second, .val (.long q4), .second, .val (.long (m0_2_0 q4)), .second, .val (.long (q3 + (m0_2_0 q4))), .second, .val (.ref b4), .unset, .unset, .unset, .unset, .unset] [(.int p2), (.int p1), (.ref b7), (.ref b7)])) _
    refine XS.lloadN X7.here hx rfl (hb hby at_40) rfl ?_
    show Steps p.tables e below (T7.setTop (mkF m 41 #[.val (.int p1), .val (.int p2), .val (.long q3), .second, .val (.long q4), .second, .val (.long (m0_2_0 q4)), .second, .val (.long (q3 + (m0_2_0 q4))), .second, .val (.ref b4), .unset, .unset, .unset, .unset, .unset] [(.long q3), (.int p2), (.int p1), (.ref b7), (.ref b7)])) _
    refine XS.lload X7.here hx rfl (hb hby at_41) rfl ?_
    show Steps p.tables e below (T7.setTop (mkF m 43 #[.val (.int p1), .val (.int p2), .val (.long q3), .second, .val (.long q4), .second, .val (.long (m0_2_0 q4)), .second, .val (.long (q3 + (m0_2_0 q4))), .second, .val (.ref b4), .unset, .unset, .unset, .unset, .unset] [(.long (q3 + (m0_2_0 q4))), (.long q3), (.int p2), (.int p1), (.ref b7), (.ref b7)])) _
    refine st10.trans ?_
    show Steps p.tables e below (T10.setTop (mkF m 46 #[.val (.int p1), .val (.int p2), .val (.long q3), .second, .val (.long q4), .second, .val (.long (m0_2_0 q4)), .second, .val (.long (q3 + (m0_2_0 q4))), .second, .val (.ref b4), .unset, .unset, .unset, .unset, .unset] [(.ref b7)])) _
    refine XS.astore X10.here hx rfl (hb hby at_46) rfl rfl (l' := #[.val (.int p1), .val (.int p2), .val (.long q3), .second, .val (.long q4), .second, .val (.long (m0_2_0 q4)), .second, .val (.long (q3 + (m0_2_0 q4))), .second, .val (.ref b4), .val (.ref b7), .unset, .unset, .unset, .unset]) rfl ?_
    show Steps p.tables e below (T10.setTop (mkF m 48 #[.val (.int p1), .val (.int p2), .val (.long q3), .second, .val (.long q4), .second, .val (.long (m0_2_0 q4)), .second, .val (.long (q3 + (m0_2_0 q4))), .second, .val (.ref b4), .val (.ref b7), .unset, .unset, .unset, .unset] [])) _
    refine st12 _ ?_
    show Steps p.tables e below (T12.setTop (mkF m 51 #[.val (.int p1), .val (.int p2), .val (.long q3), .second, .val (.long q4), .second, .val (.long (m0_2_0 q4)), .second, .val (.long (q3 + (m0_2_0 q4))), .second, .val (.ref b4), .val (.ref b7), .unset, .unset, .unset, .unset] [(.ref b12)])) _
    refine XS.dup X12.here hx rfl (hb hby at_51) rfl rfl ?_
    show Steps p.tables e below (T12.setTop (mkF m 52 #[.val (.int p1), .val (.int p2), .val (.long q3), .second, .val (.long q4), .second, .val (.long (m0_2_0 q4)), .second, .val (.long (q3 + (m0_2_0 q4))), .second, .val (.ref b4), .val (.ref b7), .unset, .unset, .unset, .unset] [(.ref b12), (.ref b12)])) _
    refine XS.iloadN X12.here hx rfl (hb hby at_52) rfl ?_
    show Steps p.tables e below (T12.setTop (mkF m 53 #[.val (.int p1), .val (.int p2), .val (.long q3), .second, .val (.long q4), .second, .val (.long (m0_2_0 q4)), .second, .val (.long (q3 + (m0_2_0 q4))), .second, .val (.ref b4), .val (.ref b7), .unset, .unset, .unset, .unset] [(.int p1), (.ref b12), (.ref b12)])) _
    refine XS.iloadN X12.here hx rfl (hb hby at_53) rfl ?_
    show Steps p.tables e below (T12.setTop (mkF m 54 #[.val (.int p1), .val (.int p2), .val (.long q3), .second, .val (.long q4), .second, .val (.long (m0_2_0 q4)), .second, .val (.long (q3 + (m0_2_0 q4))), .second, .val (.ref b4), .val (.ref b7), .unset, .unset, .unset, .unset] [(.int p2), (.int p1), (.ref b12), (.ref b12)])) _
    refine XS.lload X12.here hx rfl (hb hby at_54) rfl ?_
    show Steps p.tables e below (T12.setTop (mkF m 56 #[.val (.int p1), .val (.int p2), .val (.long q3), .second, .val (.long q4), .second, .val (.long (m0_2_0 q4)), .second, .val (.long (q3 + (m0_2_0 q4))), .second, .val (.ref b4), .val (.ref b7), .unset, .unset, .unset, .unset] [(.long (q3 + (m0_2_0 q4))), (.int p2), (.int p1), (.ref b12), (.ref b12)])) _
    refine XS.lloadN X12.here hx rfl (hb hby at_56) rfl ?_
    show Steps p.tables e below (T12.setTop (mkF m 57 #[.val (.int p1), .val (.int p2), .val (.long q3), .second, .val (.long q4), .second, .val (.long (m0_2_0 q4)), .second, .val (.long (q3 + (m0_2_0 q4))), .second, .val (.ref b4), .val (.ref b7), .unset, .unset, .unset, .unset] [(.long q3), (.long (q3 + (m0_2_0 q4))), (.int p2), (.int p1), (.ref b12), (.ref b12)])) _
    refine st17.trans ?_
    show Steps p.tables e below (T17.setTop (mkF m 60 #[.val (.int p1), .val (.int p2), .val (.long q3), .second, .val (.long q4), .second, .val (.long (m0_2_0 q4)), .second, .val (.long (q3 + (m0_2_0 q4))), .second, .val (.ref b4), .val (.ref b7), .unset, .unset, .unset, .unset] [(.ref b12)])) _
    refine XS.astore X17.here hx rfl (hb hby at_60) rfl rfl (l' := #[.val (.int p1), .val (.int p2), .val (.long q3), .second, .val (.long q4), .second, .val (.long (m0_2_0 q4)), .second, .val (.long (q3 + (m0_2_0 q4))), .second, .val (.ref b4), .val (.ref b7), .val (.ref b12), .unset, .unset, .unset]) rfl ?_
    show Steps p.tables e below (T17.setTop (mkF m 62 #[.val (.int p1), .val (.int p2), .val (.long q3), .second, .val (.long q4), .second, .val (.long (m0_2_0 q4)), .second, .val (.long (q3 + (m0_2_0 q4))), .second, .val (.ref b4), .val (.ref b7), .val (.ref b12), .unset, .unset, .unset] [])) _
    refine XS.aload X17.here hx rfl (hb hby at_62) rfl rfl ?_
    show Steps p.tables e below (T17.setTop (mkF m 64 #[.val (.int p1), .val (.int p2), .val (.long q3), .second, .val (.long q4), .second, .val (.long (m0_2_0 q4)), .second, .val (.long (q3 + (m0_2_0 q4))), .second, .val (.ref b4), .val (.ref b7), .val (.ref b12), .unset, .unset, .unset] [(.ref b4)])) _
    refine st21.trans ?_
    show Steps p.tables e below (T21.setTop (mkF m 67 #[.val (.int p1), .val (.int p2), .val (.long q3), .second, .val (.long q4), .second, .val (.long (m0_2_0 q4)), .second, .val (.long (q3 + (m0_2_0 q4))), .second, .val (.ref b4), .val (.ref b7), .val (.ref b12), .unset, .unset, .unset] [(.int (f4 q3 q3))])) _
    refine XS.istore X21.here hx rfl (hb hby at_67) rfl (l' := #[.val (.int p1), .val (.int p2), .val (.long q3), .second, .val (.long q4), .second, .val (.long (m0_2_0 q4)), .second, .val (.long (q3 + (m0_2_0 q4))), .second, .val (.ref b4), .val (.ref b7), .val (.ref b12), .val (.int (f4 q3 q3)), .unset, .unset]) rfl ?_
    show Steps p.tables e below (T21.setTop (mkF m 69 #[.val (.int p1), .val (.int p2), .val (.long q3), .second, .val (.long q4), .second, .val (.long (m0_2_0 q4)), .second, .val (.long (q3 + (m0_2_0 q4))), .second, .val (.ref b4), .val (.ref b7), .val (.ref b12), .val (.int (f4 q3 q3)), .unset, .unset] [])) _
    refine XS.aload X21.here hx rfl (hb hby at_69) rfl rfl ?_
    show Steps p.tables e below (T21.setTop (mkF m 71 #[.val (.int p1), .val (.int p2), .val (.long q3), .second, .val (.long q4), .second, .val (.long (m0_2_0 q4)), .second, .val (.long (q3 + (m0_2_0 q4))), .second, .val (.ref b4), .val (.ref b7), .val (.ref b12), .val (.int (f4 q3 q3)), .unset, .unset] [(.ref b7)])) _
    refine st25.trans ?_
    show Steps p.tables e below (T25.setTop (mkF m 74 #[.val (.int p1), .val (.int p2), .val (.long q3), .second, .val (.long q4), .second, .val (.long (m0_2_0 q4)), .second, .val (.long (q3 + (m0_2_0 q4))), .second, .val (.ref b4), .val (.ref b7), .val (.ref b12), .val (.int (f4 q3 q3)), .unset, .unset] [(.int (f4 q3 (q3 + (m0_2_0 q4))))])) _
    refine XS.istore X25.here hx rfl (hb hby at_74) rfl (l' := #[.val (.int p1), .val (.int p2), .val (.long q3), .second, .val (.long q4), .second, .val (.long (m0_2_0 q4)), .second, .val (.long (q3 + (m0_2_0 q4))), .second, .val (.ref b4), .val (.ref b7), .val (.ref b12), .val (.int (f4 q3 q3)), .val (.int (f4 q3 (q3 + (m0_2_0 q4)))), .unset]) rfl ?_
    show Steps p.tables e below (T25.setTop (mkF m 76 #[.val (.int p1), .val (.int p2), .val (.long q3), .second, .val (.long q4), .second, .val (.long (m0_2_0 q4)), .second, .val (.long (q3 + (m0_2_0 q4))), .second, .val (.ref b4), .val (.ref b7), .val (.ref b12), .val (.int (f4 q3 q3)), .val (.int (f4 q3 (q3 + (m0_2_0 q4)))), .unset] [])) _
    refine XS.aload X25.here hx rfl (hb hby at_76) rfl rfl ?_
    show Steps p.tables e below (T25.setTop (mkF m 78 #[.val (.int p1), .val (.int p2), .val (.long q3), .second, .val (.long q4), .second, .val (.long (m0_2_0 q4)), .second, .val (.long (q3 + (m0_2_0 q4))), .second, .val (.ref b4), .val (.ref b7), .val (.ref b12), .val (.int (f4 q3 q3)), .val (.int (f4 q3 (q3 + (m0_2_0 q4)))), .unset] [(.ref b12)])) _
    refine st27.trans ?_
    show Steps p.tables e below (T27.setTop (mkF m 81 #[.val (.int p1), .val (.int p2), .val (.long q3), .second, .val (.long q4), .second, .val (.long (m0_2_0 q4)), .second, .val (.long (q3 + (m0_2_0 q4))), .second, .val (.ref b4), .val (.ref b7), .val (.ref b12), .val (.int (f4 q3 q3)), .val (.int (f4 q3 (q3 + (m0_2_0 q4)))), .unset] [(.int (f4 (q3 + (m0_2_0 q4)) q3))])) _
    refine XS.istore X27.here hx rfl (hb hby at_81) rfl (l' := #[.val (.int p1), .val (.int p2), .val (.long q3), .second, .val (.long q4), .second, .val (.long (m0_2_0 q4)), .second, .val (.long (q3 + (m0_2_0 q4))), .second, .val (.ref b4), .val (.ref b7), .val (.ref b12), .val (.int (f4 q3 q3)), .val (.int (f4 q3 (q3 + (m0_2_0 q4)))), .val (.int (f4 (q3 + (m0_2_0 q4)) q3))]) rfl ?_
    show Steps p.tables e below (T27.setTop (mkF m 83 #[.val (.int p1), .val (.int p2), .val (.long q3), .second, .val (.long q4), .second, .val (.long (m0_2_0 q4)), .second, .val (.long (q3 + (m0_2_0 q4))), .second, .val (.ref b4), .val (.ref b7), .val (.ref b12), .val (.int (f4 q3 q3)), .val (.int (f4 q3 (q3 + (m0_2_0 q4)))), .val (.int (f4 (q3 + (m0_2_0 q4)) q3))] [])) _
    refine XS.iload X27.here hx rfl (hb hby at_83) rfl ?_
    exact k)
  by_cases hc30 : (f4 q3 q3) = (0 : Int32)
  · obtain ⟨fs, hr, hrun, hended, hW, hsame⟩ := X27.leave (v := some (.int (0 : Int32))) (fun h => by rw [Bd.returns] at h; cases h)
    refine ⟨_, _, pre29 _ ?_, hrun, hended, _, _, rfl, ?_, ⟨_, rfl⟩, hW, hsame.mono (by decide) (by decide)⟩
    · show Steps p.tables e below (T27.setTop (mkF m 85 #[.val (.int p1), .val (.int p2), .val (.long q3), .second, .val (.long q4), .second, .val (.long (m0_2_0 q4)), .second, .val (.long (q3 + (m0_2_0 q4))), .second, .val (.ref b4), .val (.ref b7), .val (.ref b12), .val (.int (f4 q3 q3)), .val (.int (f4 q3 (q3 + (m0_2_0 q4)))), .val (.int (f4 (q3 + (m0_2_0 q4)) q3))] [(.int (f4 q3 q3))])) _
      refine XS.ifYes X27.here hx rfl (pc0 := 85) (pc' := 102) rfl (hb hby at_85) rfl ((if0 _ _).trans (teq hc30).1) (by decide) (by decide) ?_
      show Steps p.tables e below (T27.setTop (mkF m 102 #[.val (.int p1), .val (.int p2), .val (.long q3), .second, .val (.long q4), .second, .val (.long (m0_2_0 q4)), .second, .val (.long (q3 + (m0_2_0 q4))), .second, .val (.ref b4), .val (.ref b7), .val (.ref b12), .val (.int (f4 q3 q3)), .val (.int (f4 q3 (q3 + (m0_2_0 q4)))), .val (.int (f4 (q3 + (m0_2_0 q4)) q3))] [])) _
      refine XS.iconst X27.here hx rfl (hb hby at_102) ?_
      show Steps p.tables e below (T27.setTop (mkF m 103 #[.val (.int p1), .val (.int p2), .val (.long q3), .second, .val (.long q4), .second, .val (.long (m0_2_0 q4)), .second, .val (.long (q3 + (m0_2_0 q4))), .second, .val (.ref b4), .val (.ref b7), .val (.ref b12), .val (.int (f4 q3 q3)), .val (.int (f4 q3 (q3 + (m0_2_0 q4)))), .val (.int (f4 (q3 + (m0_2_0 q4)) q3))] [(.int (0 : Int32))])) _
      exact retN X27 hx (t := .boolean) Bd.returns (by simp) (hb hby at_103) hr
    · show Q0 Z p1 p2 q3 q4 h0 n0 _ T27.heap _
      rw [e27]
      exact ⟨by rw [show (f0 q3 q4) = (0 : Int32) from by first | (rw [f0, if_pos hc30]; done) | (simp only [f0, if_pos hc30]; done) | rfl], N27⟩
  · have pre32 : ∀ t, Steps p.tables e below (T27.setTop (mkF m 90 #[.val (.int p1), .val (.int p2), .val (.long q3), .second, .val (.long q4), .second, .val (.long (m0_2_0 q4)), .second, .val (.long (q3 + (m0_2_0 q4))), .second, .val (.ref b4), .val (.ref b7), .val (.ref b12), .val (.int (f4 q3 q3)), .val (.int (f4 q3 (q3 + (m0_2_0 q4)))), .val (.int (f4 (q3 + (m0_2_0 q4)) q3))] [(.int (f4 q3 (q3 + (m0_2_0 q4))))])) t → Steps p.tables e below (s₁.setTop (entryFrame m #[(.int p1), (.int p2), (.long q3), (.long q4)] maxLocals)) t := fun t k => pre29 t (by
      show Steps p.tables e below (T27.setTop (mkF m 85 #[.val (.int p1), .val (.int p2), .val (.long q3), .second, .val (.long q4), .second, .val (.long (m0_2_0 q4)), .second, .val (.long (q3 + (m0_2_0 q4))), .second, .val (.ref b4), .val (.ref b7), .val (.ref b12), .val (.int (f4 q3 q3)), .val (.int (f4 q3 (q3 + (m0_2_0 q4)))), .val (.int (f4 (q3 + (m0_2_0 q4)) q3))] [(.int (f4 q3 q3))])) _
      refine XS.ifNo X27.here hx rfl (hb hby at_85) rfl ((if0 _ _).trans (feq hc30).1) ?_
      show Steps p.tables e below (T27.setTop (mkF m 88 #[.val (.int p1), .val (.int p2), .val (.long q3), .second, .val (.long q4), .second, .val (.long (m0_2_0 q4)), .second, .val (.long (q3 + (m0_2_0 q4))), .second, .val (.ref b4), .val (.ref b7), .val (.ref b12), .val (.int (f4 q3 q3)), .val (.int (f4 q3 (q3 + (m0_2_0 q4)))), .val (.int (f4 (q3 + (m0_2_0 q4)) q3))] [])) _
      refine XS.iload X27.here hx rfl (hb hby at_88) rfl ?_
      exact k)
    by_cases hc33 : (f4 q3 (q3 + (m0_2_0 q4))) = (0 : Int32)
    · have pre34 : ∀ t, Steps p.tables e below (T27.setTop (mkF m 95 #[.val (.int p1), .val (.int p2), .val (.long q3), .second, .val (.long q4), .second, .val (.long (m0_2_0 q4)), .second, .val (.long (q3 + (m0_2_0 q4))), .second, .val (.ref b4), .val (.ref b7), .val (.ref b12), .val (.int (f4 q3 q3)), .val (.int (f4 q3 (q3 + (m0_2_0 q4)))), .val (.int (f4 (q3 + (m0_2_0 q4)) q3))] [(.int (f4 (q3 + (m0_2_0 q4)) q3))])) t → Steps p.tables e below (s₁.setTop (entryFrame m #[(.int p1), (.int p2), (.long q3), (.long q4)] maxLocals)) t := fun t k => pre32 t (by
        show Steps p.tables e below (T27.setTop (mkF m 90 #[.val (.int p1), .val (.int p2), .val (.long q3), .second, .val (.long q4), .second, .val (.long (m0_2_0 q4)), .second, .val (.long (q3 + (m0_2_0 q4))), .second, .val (.ref b4), .val (.ref b7), .val (.ref b12), .val (.int (f4 q3 q3)), .val (.int (f4 q3 (q3 + (m0_2_0 q4)))), .val (.int (f4 (q3 + (m0_2_0 q4)) q3))] [(.int (f4 q3 (q3 + (m0_2_0 q4))))])) _
        refine XS.ifNo X27.here hx rfl (hb hby at_90) rfl ((if0 _ _).trans (teq hc33).2) ?_
        show Steps p.tables e below (T27.setTop (mkF m 93 #[.val (.int p1), .val (.int p2), .val (.long q3), .second, .val (.long q4), .second, .val (.long (m0_2_0 q4)), .second, .val (.long (q3 + (m0_2_0 q4))), .second, .val (.ref b4), .val (.ref b7), .val (.ref b12), .val (.int (f4 q3 q3)), .val (.int (f4 q3 (q3 + (m0_2_0 q4)))), .val (.int (f4 (q3 + (m0_2_0 q4)) q3))] [])) _
        refine XS.iload X27.here hx rfl (hb hby at_93) rfl ?_
        exact k)
      by_cases hc35 : (f4 (q3 + (m0_2_0 q4)) q3) = (0 : Int32)
      · obtain ⟨fs, hr, hrun, hended, hW, hsame⟩ := X27.leave (v := some (.int (1 : Int32))) (fun h => by rw [Bd.returns] at h; cases h)
        refine ⟨_, _, pre34 _ ?_, hrun, hended, _, _, rfl, ?_, ⟨_, rfl⟩, hW, hsame.mono (by decide) (by decide)⟩
        · show Steps p.tables e below (T27.setTop (mkF m 95 #[.val (.int p1), .val (.int p2), .val (.long q3), .second, .val (.long q4), .second, .val (.long (m0_2_0 q4)), .second, .val (.long (q3 + (m0_2_0 q4))), .second, .val (.ref b4), .val (.ref b7), .val (.ref b12), .val (.int (f4 q3 q3)), .val (.int (f4 q3 (q3 + (m0_2_0 q4)))), .val (.int (f4 (q3 + (m0_2_0 q4)) q3))] [(.int (f4 (q3 + (m0_2_0 q4)) q3))])) _
          refine XS.ifNo X27.here hx rfl (hb hby at_95) rfl ((if0 _ _).trans (teq hc35).2) ?_
          show Steps p.tables e below (T27.setTop (mkF m 98 #[.val (.int p1), .val (.int p2), .val (.long q3), .second, .val (.long q4), .second, .val (.long (m0_2_0 q4)), .second, .val (.long (q3 + (m0_2_0 q4))), .second, .val (.ref b4), .val (.ref b7), .val (.ref b12), .val (.int (f4 q3 q3)), .val (.int (f4 q3 (q3 + (m0_2_0 q4)))), .val (.int (f4 (q3 + (m0_2_0 q4)) q3))] [])) _
          refine XS.iconst X27.here hx rfl (hb hby at_98) ?_
          show Steps p.tables e below (T27.setTop (mkF m 99 #[.val (.int p1), .val (.int p2), .val (.long q3), .second, .val (.long q4), .second, .val (.long (m0_2_0 q4)), .second, .val (.long (q3 + (m0_2_0 q4))), .second, .val (.ref b4), .val (.ref b7), .val (.ref b12), .val (.int (f4 q3 q3)), .val (.int (f4 q3 (q3 + (m0_2_0 q4)))), .val (.int (f4 (q3 + (m0_2_0 q4)) q3))] [(.int (1 : Int32))])) _
          refine XS.goto X27.here hx rfl (pc0 := 99) (pc' := 103) rfl (hb hby at_99) (by decide) (by decide) ?_
          show Steps p.tables e below (T27.setTop (mkF m 103 #[.val (.int p1), .val (.int p2), .val (.long q3), .second, .val (.long q4), .second, .val (.long (m0_2_0 q4)), .second, .val (.long (q3 + (m0_2_0 q4))), .second, .val (.ref b4), .val (.ref b7), .val (.ref b12), .val (.int (f4 q3 q3)), .val (.int (f4 q3 (q3 + (m0_2_0 q4)))), .val (.int (f4 (q3 + (m0_2_0 q4)) q3))] [(.int (1 : Int32))])) _
          exact retN X27 hx (t := .boolean) Bd.returns (by simp) (hb hby at_103) hr
        · show Q0 Z p1 p2 q3 q4 h0 n0 _ T27.heap _
          rw [e27]
          exact ⟨by rw [show (f0 q3 q4) = (1 : Int32) from by first | (rw [f0, if_neg hc30, if_pos hc33, if_pos hc35]; done) | (simp only [f0, if_neg hc30, if_pos hc33, if_pos hc35]; done) | rfl], N27⟩
      · obtain ⟨fs, hr, hrun, hended, hW, hsame⟩ := X27.leave (v := some (.int (0 : Int32))) (fun h => by rw [Bd.returns] at h; cases h)
        refine ⟨_, _, pre34 _ ?_, hrun, hended, _, _, rfl, ?_, ⟨_, rfl⟩, hW, hsame.mono (by decide) (by decide)⟩
        · show Steps p.tables e below (T27.setTop (mkF m 95 #[.val (.int p1), .val (.int p2), .val (.long q3), .second, .val (.long q4), .second, .val (.long (m0_2_0 q4)), .second, .val (.long (q3 + (m0_2_0 q4))), .second, .val (.ref b4), .val (.ref b7), .val (.ref b12), .val (.int (f4 q3 q3)), .val (.int (f4 q3 (q3 + (m0_2_0 q4)))), .val (.int (f4 (q3 + (m0_2_0 q4)) q3))] [(.int (f4 (q3 + (m0_2_0 q4)) q3))])) _
          refine XS.ifYes X27.here hx rfl (pc0 := 95) (pc' := 102) rfl (hb hby at_95) rfl ((if0 _ _).trans (feq hc35).2) (by decide) (by decide) ?_
          show Steps p.tables e below (T27.setTop (mkF m 102 #[.val (.int p1), .val (.int p2), .val (.long q3), .second, .val (.long q4), .second, .val (.long (m0_2_0 q4)), .second, .val (.long (q3 + (m0_2_0 q4))), .second, .val (.ref b4), .val (.ref b7), .val (.ref b12), .val (.int (f4 q3 q3)), .val (.int (f4 q3 (q3 + (m0_2_0 q4)))), .val (.int (f4 (q3 + (m0_2_0 q4)) q3))] [])) _
          refine XS.iconst X27.here hx rfl (hb hby at_102) ?_
          show Steps p.tables e below (T27.setTop (mkF m 103 #[.val (.int p1), .val (.int p2), .val (.long q3), .second, .val (.long q4), .second, .val (.long (m0_2_0 q4)), .second, .val (.long (q3 + (m0_2_0 q4))), .second, .val (.ref b4), .val (.ref b7), .val (.ref b12), .val (.int (f4 q3 q3)), .val (.int (f4 q3 (q3 + (m0_2_0 q4)))), .val (.int (f4 (q3 + (m0_2_0 q4)) q3))] [(.int (0 : Int32))])) _
          exact retN X27 hx (t := .boolean) Bd.returns (by simp) (hb hby at_103) hr
        · show Q0 Z p1 p2 q3 q4 h0 n0 _ T27.heap _
          rw [e27]
          exact ⟨by rw [show (f0 q3 q4) = (0 : Int32) from by first | (rw [f0, if_neg hc30, if_pos hc33, if_neg hc35]; done) | (simp only [f0, if_neg hc30, if_pos hc33, if_neg hc35]; done) | rfl], N27⟩
    · obtain ⟨fs, hr, hrun, hended, hW, hsame⟩ := X27.leave (v := some (.int (0 : Int32))) (fun h => by rw [Bd.returns] at h; cases h)
      refine ⟨_, _, pre32 _ ?_, hrun, hended, _, _, rfl, ?_, ⟨_, rfl⟩, hW, hsame.mono (by decide) (by decide)⟩
      · show Steps p.tables e below (T27.setTop (mkF m 90 #[.val (.int p1), .val (.int p2), .val (.long q3), .second, .val (.long q4), .second, .val (.long (m0_2_0 q4)), .second, .val (.long (q3 + (m0_2_0 q4))), .second, .val (.ref b4), .val (.ref b7), .val (.ref b12), .val (.int (f4 q3 q3)), .val (.int (f4 q3 (q3 + (m0_2_0 q4)))), .val (.int (f4 (q3 + (m0_2_0 q4)) q3))] [(.int (f4 q3 (q3 + (m0_2_0 q4))))])) _
        refine XS.ifYes X27.here hx rfl (pc0 := 90) (pc' := 102) rfl (hb hby at_90) rfl ((if0 _ _).trans (feq hc33).2) (by decide) (by decide) ?_
        show Steps p.tables e below (T27.setTop (mkF m 102 #[.val (.int p1), .val (.int p2), .val (.long q3), .second, .val (.long q4), .second, .val (.long (m0_2_0 q4)), .second, .val (.long (q3 + (m0_2_0 q4))), .second, .val (.ref b4), .val (.ref b7), .val (.ref b12), .val (.int (f4 q3 q3)), .val (.int (f4 q3 (q3 + (m0_2_0 q4)))), .val (.int (f4 (q3 + (m0_2_0 q4)) q3))] [])) _
        refine XS.iconst X27.here hx rfl (hb hby at_102) ?_
        show Steps p.tables e below (T27.setTop (mkF m 103 #[.val (.int p1), .val (.int p2), .val (.long q3), .second, .val (.long q4), .second, .val (.long (m0_2_0 q4)), .second, .val (.long (q3 + (m0_2_0 q4))), .second, .val (.ref b4), .val (.ref b7), .val (.ref b12), .val (.int (f4 q3 q3)), .val (.int (f4 q3 (q3 + (m0_2_0 q4)))), .val (.int (f4 (q3 + (m0_2_0 q4)) q3))] [(.int (0 : Int32))])) _
        exact retN X27 hx (t := .boolean) Bd.returns (by simp) (hb hby at_103) hr
      · show Q0 Z p1 p2 q3 q4 h0 n0 _ T27.heap _
        rw [e27]
        exact ⟨by rw [show (f0 q3 q4) = (0 : Int32) from by first | (rw [f0, if_neg hc30, if_neg hc33]; done) | (simp only [f0, if_neg hc30, if_neg hc33]; done) | rfl], N27⟩

theorem own_f4 (x y : Int64) : f4 x y = if x = y then 1 else 0 := by simp only [f4, own_le]
theorem own_main (q3 q4 : Int64) : f0 q3 q4 = 1 := by
  have hd : m0_2_0 q4 ≠ 0 := by
    rw [m0_2_0]
    split
    · decide
    · rename_i h; rw [own_le] at h; exact h
  rw [f0]
  generalize m0_2_0 q4 = d at *
  have h1 : ¬ q3 = q3 + d := fun h => hd (by
    have h2 : q3 + d - q3 = q3 - q3 := by rw [← h]
    rw [Int64.add_comm, Int64.add_sub_cancel, Int64.sub_self] at h2; exact h2)
  have h2 : ¬ q3 + d = q3 := fun h => h1 h.symm
  simp only [own_f4, if_pos, if_neg h1, if_neg h2]
  decide

set_option maxRecDepth 65536 in
set_option maxHeartbeats 40000000 in
theorem comes_1 {Post : Tables → Env → Array Value → State → Outcome → State → Prop} (hpost : ∀ tb e args s v u, (limb_1_1.after args s (.returned v) u = true ∧ limb_1_2.after args s (.returned v) u = true ∧ True) → FrameEnd s (.returned v) u (Jvm.fieldLocs frame_1_writes args s ++ Jvm.arrayLocs frame_1_arrays args s ++ Jvm.staticLocs frame_1_statics s) 16 128 → Post tb e args s (.returned v) u) :
    ArmFor flags0 classFile x code maxLocals ret World_1 tables_1 room_1 Calls_1 rest_1 Pre_1 Post := by
  intro l hfl _ _ p e ha hc hk s m args below hf hA hF happ hP
  obtain ⟨hcalls, hrest, hpre⟩ := hP
  obtain ⟨-, -, -, hnamed, -, -, -, hat⟩ := (Spec.applies_iff hf).mp happ
  obtain ⟨hg, hn⟩ := and_e (Cond.before_iff.mp (show (Jvm.Cond.and given_1 narrow_1).before args s = true from hpre))
  obtain ⟨g1, g2⟩ := and_e hg
  obtain ⟨g3, g4⟩ := and_e g2
  obtain ⟨g5, g6⟩ := and_e g4
  obtain ⟨g7, g8⟩ := and_e g6
  obtain ⟨w0, w1, w2, w3, rfl⟩ : ∃ w0 w1 w2 w3 : Value, args = #[w0, w1, w2, w3] := by
    have hs : args.size = 4 := by simpa [Cond.value, given_1] using g1
    obtain ⟨L⟩ := args
    match L, hs with
    | [w0, w1, w2, w3], _ => exact ⟨w0, w1, w2, w3, rfl⟩
  have hw := fun d (hd : d ∈ tables_1) => atoms_spec (ws := Jvm.Cond.code x code maxLocals ret :: tables_1) hat d (List.mem_cons_of_mem _ hd)
  have hfit : Fit s := fun {y c} hc i hi => by
    obtain ⟨ha, rfl⟩ := Array.getElem?_eq_some_iff.mp hc
    have q := List.all_eq_true.mp ((Array.all_eq_true_iff_forall_mem.mp hF) _ (Array.getElem_mem ha)) i (List.mem_range.mpr hi)
    simpa [Array.getElem?_eq_getElem hi] using q
  obtain ⟨i0, ei0⟩ := is_v g3
  obtain rfl : w0 = (.int i0) := Option.some.inj ei0
  obtain ⟨i1, ei1⟩ := is_v g5
  obtain rfl : w1 = (.int i1) := Option.some.inj ei1
  obtain ⟨i2, ei2⟩ := isL_v g7
  obtain rfl : w2 = (.long i2) := Option.some.inj ei2
  obtain ⟨i3, ei3⟩ := isL_v g8
  obtain rfl : w3 = (.long i3) := Option.some.inj ei3
  obtain ⟨n, o, h1, h2, h3, _, L, rfl, ⟨rfl, N⟩, hq⟩ := rm0 l s _ hw tables_1 i0 i1 i2 i3 s.heap s.heap.size (Nat.le_refl _) p e ha hc hk s m _ below hf ((Spec.applies_iff_loose hf).mp happ).1 ⟨rfl, State.Warmed39.refl s, rfl⟩ trivial
  refine ⟨n, _, h1, h2, h3, hpost _ _ _ _ _ _ ⟨Cond.after_iff.mpr rfl, Cond.after_iff.mpr (eq_i res_at (Term.int_eval (1)) (congrArg Value.int (own_main i2 i3))), trivial⟩ ⟨hq.1, hq.2.1, (hq.2.2.sift fun y hy => Or.inr (N y hy)).mono (by decide) (by decide)⟩⟩
theorem main_1_1 : Claimed_1_1 := comes_1 fun _ _ _ _ _ _ h hF => ⟨h.1, hF⟩
theorem main_1_2 : Claimed_1_2 := comes_1 fun _ _ _ _ _ _ h hF => ⟨h.2.1, hF⟩
end Jvm.Pilot.@@N@@
namespace Jvm.Pilot.@@N@@
open Jvm Jvm.ClassFile Sem Op Lib Jvm.Free Jvm.Stand Jvm.Pilot.@@N@@.Jvm.D
/-! MADE BY PROGRAM (witnessworld.py) out of the Statement's table words and the real class files: 10 classes; the members and pool entries that the words name. The judged class is class 1, her method 1. -/
namespace start1
open Jvm.ClassFile
def u (s : String) : CpInfo := .utf8 (stringToUtf16 s)
/-- a pool by its gaps: so many unusable entries, then the entry; so many at the end -/
def gap : Nat → List CpInfo → List CpInfo
  | 0, r => r
  | n + 1, r => .unusable :: gap n r
def poolList (es : List (Nat × CpInfo)) (last : Nat) : List CpInfo := es.foldr (fun e r => gap e.1 (e.2 :: r)) (gap last [])
def pool (es : List (Nat × CpInfo)) (last : Nat) : Array CpInfo := ⟨poolList es last⟩
def fileOf (pool : Array CpInfo) (this : Nat) (attrs : Array Attribute := #[]) (ms : Array MethodInfo := #[]) (fl : Nat := 33) (sup : Nat := 0) (ifs : Array Nat := #[]) (fds : Array FieldInfo := #[]) : ClassFile where
  minorVersion := 0
  majorVersion := 65
  constantPool := pool
  accessFlags := fl
  thisClass := this
  superClass := sup
  interfaces := ifs
  fields := fds
  methods := ms
  attributes := attrs
def plain (name : String) (sup : Option ClassId) : Class where
  name := name
  kind := .ordinary
  loader := none
  accessFlags := 33
  super := sup
  interfaces := #[]
  cf := none
  fields := #[]
  methods := #[]
  instanceTypes := #[]
  staticTypes := #[]
  resolved := #[]
  callSites := []
  init := .initialized
  statics := none
  mirror := none

def pool0 : Array CpInfo := pool [(5, u "<init>"), (0, u "()V"), (1, .class_ 10), (1, u "java/lang/Object")] 113

def k0c0 : Code := { maxStack := 0, maxLocals := 1, code := object_method_1_code, exceptionTable := #[], attributes := #[] }
def k0m0 : Method := { name := "<init>", desc := "()V", sig := { parameters := [], returnType := none }, accessFlags := 1, code := some k0c0 }
/-- java/lang/Object -/
def k0 : Class := { plain "java/lang/Object" none with
  accessFlags := 33
  interfaces := #[]
  cf := some (fileOf pool0 8 #[] #[{ accessFlags := 1, nameIndex := 5, descriptorIndex := 6, attributes := #[] }] 33 0 #[] #[])
  fields := #[]
  methods := #[k0m0]
  instanceTypes := #[]
  staticTypes := #[]
  resolved := Array.replicate 124 none
  statics := none }

def pool1 : Array CpInfo := pool [(2, .class_ 4), (1, u "java/lang/Object"), (0, u "<init>"), (0, u "()V"), (0, .class_ 8), (0, u "com/example/siphon/siphon/net/Incidence$Link"), (0, .methodref 7 10), (0, .nameAndType 5 11), (0, u "(IIJJ)V"), (0, .methodref 7 13), (0, .nameAndType 14 15), (0, u "isReading"), (0, u "()Z"), (0, .class_ 17), (0, u "com/example/siphon/siphon/net/LinkIsReadingPinLaw"), (2, u "law"), (0, u "(IIJJ)Z")] 7

def k1m0 : Method := { name := "<init>", desc := "()V", sig := { parameters := [], returnType := none }, accessFlags := 2, code := none }
def k1c1 : Code := { maxStack := 8, maxLocals := 16, code := code, exceptionTable := #[], attributes := #[] }
def k1m1 : Method := { name := "law", desc := "(IIJJ)Z", sig := { parameters := [.int, .int, .long, .long], returnType := some .boolean }, accessFlags := 9, code := some k1c1 }
/-- com/example/siphon/siphon/net/LinkIsReadingPinLaw -/
def k1 : Class := { plain "com/example/siphon/siphon/net/LinkIsReadingPinLaw" (some 0) with
  accessFlags := 49
  interfaces := #[]
  cf := some (fileOf pool1 16 #[] #[{ accessFlags := 2, nameIndex := 5, descriptorIndex := 6, attributes := #[] }, { accessFlags := 9, nameIndex := 20, descriptorIndex := 21, attributes := #[] }] 49 2 #[] #[])
  fields := #[]
  methods := #[k1m0, k1m1]
  instanceTypes := #[]
  staticTypes := #[]
  resolved := Array.replicate 29 none
  statics := none }

def pool2 : Array CpInfo := pool [(1, .methodref 2 3), (0, .class_ 4), (0, .nameAndType 5 6), (0, u "java/lang/Object"), (0, u "<init>"), (0, u "()V"), (0, .class_ 8), (0, u "java/lang/Record")] 13

def k2c0 : Code := { maxStack := 1, maxLocals := 1, code := jdk_30_method_1_code, exceptionTable := #[], attributes := #[] }
def k2m0 : Method := { name := "<init>", desc := "()V", sig := { parameters := [], returnType := none }, accessFlags := 4, code := some k2c0 }
/-- java/lang/Record -/
def k2 : Class := { plain "java/lang/Record" (some 0) with
  accessFlags := 1057
  interfaces := #[]
  cf := some (fileOf pool2 7 #[] #[{ accessFlags := 4, nameIndex := 5, descriptorIndex := 6, attributes := #[] }] 1057 2 #[] #[])
  fields := #[]
  methods := #[k2m0]
  instanceTypes := #[]
  staticTypes := #[]
  resolved := Array.replicate 22 none
  statics := none }

def pool3 : Array CpInfo := pool [(1, .methodref 2 3), (0, .class_ 4), (0, .nameAndType 5 6), (0, u "java/lang/Record"), (0, u "<init>"), (0, u "()V"), (0, .fieldref 8 9), (0, .class_ 10), (0, .nameAndType 11 12), (0, u "com/example/siphon/siphon/net/Incidence$Link"), (0, u "place"), (0, u "I"), (0, .fieldref 8 14), (0, .nameAndType 15 12), (0, u "transition"), (0, .fieldref 8 17), (0, .nameAndType 18 19), (0, u "take"), (0, u "J"), (0, .fieldref 8 21), (0, .nameAndType 22 19), (0, u "give"), (12, u "(IIJJ)V"), (3, u "isReading"), (0, u "()Z"), (8, .class_ 50), (0, u "com/example/siphon/siphon/net/Incidence")] 22

def k3c0 : Code := { maxStack := 3, maxLocals := 7, code := prog_30_method_1_code, exceptionTable := #[], attributes := #[] }
def k3m0 : Method := { name := "<init>", desc := "(IIJJ)V", sig := { parameters := [.int, .int, .long, .long], returnType := none }, accessFlags := 1, code := some k3c0 }
def k3c1 : Code := { maxStack := 4, maxLocals := 1, code := prog_30_method_2_code, exceptionTable := #[], attributes := #[] }
def k3m1 : Method := { name := "isReading", desc := "()Z", sig := { parameters := [], returnType := some .boolean }, accessFlags := 1, code := some k3c1 }
/-- com/example/siphon/siphon/net/Incidence$Link -/
def k3 : Class := { plain "com/example/siphon/siphon/net/Incidence$Link" (some 2) with
  accessFlags := 49
  interfaces := #[]
  cf := some (fileOf pool3 8 #[.nestHost 49] #[{ accessFlags := 1, nameIndex := 5, descriptorIndex := 35, attributes := #[] }, { accessFlags := 1, nameIndex := 39, descriptorIndex := 40, attributes := #[] }] 49 2 #[] #[{ accessFlags := 18, nameIndex := 11, descriptorIndex := 12, attributes := #[] }, { accessFlags := 18, nameIndex := 15, descriptorIndex := 12, attributes := #[] }, { accessFlags := 18, nameIndex := 18, descriptorIndex := 19, attributes := #[] }, { accessFlags := 18, nameIndex := 22, descriptorIndex := 19, attributes := #[] }])
  fields := #[{ name := "place", type := .int, accessFlags := 18, slot := 0, constantValue := 0 }, { name := "transition", type := .int, accessFlags := 18, slot := 1, constantValue := 0 }, { name := "take", type := .long, accessFlags := 18, slot := 2, constantValue := 0 }, { name := "give", type := .long, accessFlags := 18, slot := 3, constantValue := 0 }]
  methods := #[k3m0, k3m1]
  instanceTypes := #[.int, .int, .long, .long]
  staticTypes := #[]
  resolved := Array.replicate 73 none
  statics := none }

def pool4 : Array CpInfo := pool [(1, u "java/lang/Cloneable"), (0, .class_ 1), (0, u "java/lang/Object"), (0, .class_ 3)] 3

/-- java/lang/Cloneable -/
def k4 : Class := { plain "java/lang/Cloneable" (some 0) with
  accessFlags := 1537
  interfaces := #[]
  cf := some (fileOf pool4 2 #[] #[] 1537 4 #[] #[])
  fields := #[]
  methods := #[]
  instanceTypes := #[]
  staticTypes := #[]
  resolved := Array.replicate 8 none
  statics := none }

def pool5 : Array CpInfo := pool [(1, u "java/io/Serializable"), (0, .class_ 1), (0, u "java/lang/Object"), (0, .class_ 3)] 3

/-- java/io/Serializable -/
def k5 : Class := { plain "java/io/Serializable" (some 0) with
  accessFlags := 1537
  interfaces := #[]
  cf := some (fileOf pool5 2 #[] #[] 1537 4 #[] #[])
  fields := #[]
  methods := #[]
  instanceTypes := #[]
  staticTypes := #[]
  resolved := Array.replicate 8 none
  statics := none }

/-- the primitive byte -/
def k6 : Class := { plain "byte" none with kind := .primitive 'B', accessFlags := 0x411 }
/-- [B -/
def k7 : Class := { plain "[B" (some 0) with kind := .array 6 .byte, interfaces := #[4, 5], accessFlags := 1041 }

/-- the primitive int -/
def k8 : Class := { plain "int" none with kind := .primitive 'I', accessFlags := 0x411 }
/-- [I -/
def k9 : Class := { plain "[I" (some 0) with kind := .array 8 .int, interfaces := #[4, 5], accessFlags := 1041 }

def heap : Heap := #[]
def classes : Array Class := #[k0, k1, k2, k3, k4, k5, k6, k7, k8, k9]
def interned : List (Array UInt16 × Addr) := []
def slotsUsed : Nat := 0
def theMethod : MethodId := ⟨1, 1⟩
def args0 : Array Value := #[.int 5, .int 6, .long 7, .long 8]
def aboutOver (below : List Frame) : State where
  vm := { classes := classes, interned := interned.toArray }
  heap := heap
  slotsUsed := slotsUsed
  threads := #[{ frames := .invoking theMethod args0 :: below }]
def below0 : List Frame := [.native { method := ⟨0, 0⟩, args := #[] }]
def about1 : State := aboutOver below0
def p0 : Program := .bare "" "" ""
def e0 : Env := launch0.env 0 0 0
theorem w_frames : about1.frames = Frame.invoking theMethod args0 :: below0 := rfl
set_option maxRecDepth 65536 in
theorem w_args : argsFit about1.vm theMethod args0 = true := by decide +kernel
set_option maxRecDepth 65536 in
theorem w_heap : heapFits about1 = true := by decide +kernel
set_option maxRecDepth 65536 in
theorem w_runnable : about1.curStatus? = some .runnable := by decide +kernel
set_option maxRecDepth 65536 in
theorem w_alone : about1.alone = true := by decide +kernel
set_option maxRecDepth 65536 in
theorem w_named : about1.methodNamed? x = some theMethod := by decide +kernel
set_option maxRecDepth 65536 in
theorem w_hears : about1.hears theMethod below0 = true := by decide +kernel
set_option maxRecDepth 65536 in
theorem w_ripe : about1.ripe theMethod args0 below0 = true := by decide +kernel
theorem w_running : about1.status = .running := rfl
set_option maxRecDepth 65536 in
theorem w_room : about1.hasRoom e0.platform room_1 = true :=
  launch0.hasRoom_least _ room_1 (by decide +kernel) (by decide +kernel) (by decide +kernel) (by decide +kernel) (by decide +kernel) (by decide +kernel)
theorem allAtoms_all (ts : List Jvm.Cond) (a : Array Jvm.Value) (st : Jvm.State) : (allAtoms ts).before a st = ts.all (fun c => c.before a st) := by
  induction ts with
  | nil => rfl
  | cons c t ih =>
    show (Jvm.Cond.and c (allAtoms t)).before a st = _
    rw [Jvm.Cond.before_and, ih, List.all_cons]
def words1 : List Jvm.Cond := Jvm.Cond.code x code maxLocals ret :: tables_1
/-- a 'code' word, met by the world's own term for the bytes: nothing is compared byte by byte -/
theorem code_word {y : MethodName} {bytes : ByteArray} {mx : Nat} {rt : Option FieldType} {a : Array Value} {s : State} {m : MethodId} {meth : Method} {c : Code} (h1 : s.methodNamed? y = some m) (h2 : s.vm.method? m = some meth) (h3 : meth.code = some c) (h4 : c.code = bytes)
    (h5 : (c.maxLocals == mx && c.exceptionTable.isEmpty && decide (c.maxStack ≤ mostOperands) && decide (meth.sig.returnType = rt) && !meth.locks && decide (parseMethodDescriptor y.desc = some meth.sig)) = true) : (Jvm.Cond.code y bytes mx rt).before a s = true := by
  simp only [Bool.and_eq_true, beq_iff_eq, Bool.not_eq_true', decide_eq_true_eq] at h5
  obtain ⟨⟨⟨⟨⟨g1, g2⟩, g3⟩, g4⟩, g5⟩, g6⟩ := h5
  simp [Cond.before, Cond.holds, Cond.value, h1, h2, h3, h4, g1, g2, g3, g4, g5, g6]
def isCode : Jvm.Cond → Bool
  | .code _ _ _ _ => true
  | _ => false
theorem all_split {L : List Jvm.Cond} {P : Jvm.Cond → Bool} (h1 : L.all (fun c => isCode c || P c) = true) (h2 : ∀ c ∈ L.filter isCode, P c = true) : L.all P = true := by
  refine List.all_eq_true.mpr fun c hc => ?_
  have h := List.all_eq_true.mp h1 c hc
  rcases Bool.eq_false_or_eq_true (isCode c) with hi | hi
  · exact h2 c (List.mem_filter.mpr ⟨hc, hi⟩)
  · simpa [hi] using h
set_option maxRecDepth 65536 in
theorem w_c0 : (Jvm.Cond.code x code maxLocals ret).before args0 about1 = true := code_word (m := ⟨1, 1⟩) (meth := k1m1) (c := k1c1) (by decide +kernel) rfl rfl rfl (by decide +kernel)
set_option maxRecDepth 65536 in
theorem w_c1 : (Jvm.Cond.code ({ cls := "com/example/siphon/siphon/net/Incidence$Link", name := "<init>", desc := "(IIJJ)V" } : Jvm.MethodName) prog_30_method_1_code (7 : Nat) (Option.none : Option Jvm.ClassFile.FieldType)).before args0 about1 = true := code_word (m := ⟨3, 0⟩) (meth := k3m0) (c := k3c0) (by decide +kernel) rfl rfl rfl (by decide +kernel)
set_option maxRecDepth 65536 in
theorem w_c2 : (Jvm.Cond.code ({ cls := "java/lang/Record", name := "<init>", desc := "()V" } : Jvm.MethodName) jdk_30_method_1_code (1 : Nat) (Option.none : Option Jvm.ClassFile.FieldType)).before args0 about1 = true := code_word (m := ⟨2, 0⟩) (meth := k2m0) (c := k2c0) (by decide +kernel) rfl rfl rfl (by decide +kernel)
set_option maxRecDepth 65536 in
theorem w_c3 : (Jvm.Cond.code ({ cls := "java/lang/Object", name := "<init>", desc := "()V" } : Jvm.MethodName) object_method_1_code (1 : Nat) (Option.none : Option Jvm.ClassFile.FieldType)).before args0 about1 = true := code_word (m := ⟨0, 0⟩) (meth := k0m0) (c := k0c0) (by decide +kernel) rfl rfl rfl (by decide +kernel)
set_option maxRecDepth 65536 in
theorem w_c4 : (Jvm.Cond.code ({ cls := "com/example/siphon/siphon/net/Incidence$Link", name := "isReading", desc := "()Z" } : Jvm.MethodName) prog_30_method_2_code (1 : Nat) (Option.some Jvm.ClassFile.FieldType.boolean)).before args0 about1 = true := code_word (m := ⟨3, 1⟩) (meth := k3m1) (c := k3c1) (by decide +kernel) rfl rfl rfl (by decide +kernel)
def codes1 : List Jvm.Cond := [Jvm.Cond.code x code maxLocals ret, Jvm.Cond.code ({ cls := "com/example/siphon/siphon/net/Incidence$Link", name := "<init>", desc := "(IIJJ)V" } : Jvm.MethodName) prog_30_method_1_code (7 : Nat) (Option.none : Option Jvm.ClassFile.FieldType), Jvm.Cond.code ({ cls := "java/lang/Record", name := "<init>", desc := "()V" } : Jvm.MethodName) jdk_30_method_1_code (1 : Nat) (Option.none : Option Jvm.ClassFile.FieldType), Jvm.Cond.code ({ cls := "java/lang/Object", name := "<init>", desc := "()V" } : Jvm.MethodName) object_method_1_code (1 : Nat) (Option.none : Option Jvm.ClassFile.FieldType), Jvm.Cond.code ({ cls := "com/example/siphon/siphon/net/Incidence$Link", name := "isReading", desc := "()Z" } : Jvm.MethodName) prog_30_method_2_code (1 : Nat) (Option.some Jvm.ClassFile.FieldType.boolean)]
set_option maxRecDepth 65536 in
theorem codes_eq : words1.filter isCode = codes1 := rfl
theorem w_codes : ∀ c ∈ words1.filter isCode, c.before args0 about1 = true := by
  rw [codes_eq]
  intro c hc
  simp only [codes1, List.mem_cons, List.not_mem_nil, or_false] at hc
  rcases hc with rfl | rfl | rfl | rfl | rfl
  · exact w_c0
  · exact w_c1
  · exact w_c2
  · exact w_c3
  · exact w_c4
set_option maxRecDepth 65536 in
theorem w_t1 : (words1.take 24).all (fun c => isCode c || c.before args0 about1) = true := by decide +kernel
set_option maxRecDepth 65536 in
theorem w_t2 : (words1.drop 24).all (fun c => isCode c || c.before args0 about1) = true := by decide +kernel
theorem w_tables : (allAtoms (Jvm.Cond.code x code maxLocals ret :: tables_1)).before args0 about1 = true := by
  rw [allAtoms_all]
  show words1.all (fun c => c.before args0 about1) = true
  refine all_split ?_ w_codes
  rw [← List.take_append_drop 24 words1, List.all_append, w_t1, w_t2]
  rfl
set_option maxRecDepth 65536 in
theorem w_case : (Jvm.Cond.and given_1 narrow_1).before args0 about1 = true := by decide +kernel
theorem w_applies : (headSpec (Jvm.Cond.code x code maxLocals ret :: tables_1) room_1).applies x e0.platform about1 = true :=
  (Spec.applies_iff w_frames).mpr ⟨w_running, w_runnable, w_alone, w_named, w_hears, w_ripe, w_room, w_tables⟩
theorem atStart : AtStart classFile x code maxLocals ret World_1 tables_1 room_1 Calls_1 rest_1 Pre_1 launch0 p0 e0 about1 theMethod args0 below0 :=
  ⟨lists_1, trivial, launch0.admits_env _ _ _, launch0.least_env, fairChoices_fair.cas, fairChoices_fair.clock, w_frames, w_args, w_heap, w_applies, trivial, trivial, w_case⟩
end start1
theorem witness_1 : WitnessClaimed_1 := ⟨start1.p0, start1.e0, start1.about1, start1.theMethod, start1.args0, start1.below0, start1.atStart⟩
end Jvm.Pilot.@@N@@

import JvmDerived
import JvmDerived.Pilot.@@N@@Statement
import JvmDerived.Pilot.@@N@@Code
set_option linter.unusedVariables false
set_option linter.unusedSimpArgs false
@@BLOCK:NumsL.lean.txt@@
namespace Jvm.RoadKit
open Sem ClassFile Op Lib Jvm.Stand Jvm.Free Jvm.LawKit
section New
variable {p : Program} {l : Launch} {e : Env} {R : Room} {s : State} {m : MethodId} {args : Array Value} {below : List Frame} {meth : Method} {c : Code} {T : State} {locs : List Loc} {cells slots : Nat}
theorem retI (X : Stand p l e R s m args below meth c T locs cells slots) (hx : p.tables.exec = Jvm.exec) {pc : Nat} {Ls : Array Slot} {z : Int32} {rest : List Value} (hret : meth.sig.returnType = some .int) (hd : decode c.code pc = .ok (.ireturn, 1)) {fs : List Frame}
    (hl : ∀ (f : JFrame) (acts : List Action), f.method = m → f.locked = none → f.entered = [] → (doReturn e (T.setTop f) acts (some (.int z))).1 = T.setFrames fs) : Steps p.tables e below (T.setTop (mkF m pc Ls (.int z :: rest))) (T.setFrames fs) := by
  have hm' : T.vm.method? m = some meth := X.method'
  have hn : narrow .int (.int z) = .int z := rfl
  show Steps p.tables e below (T.setTop { method := m, pc := pc, locals := Ls, stack := _ :: rest, locked := none }) _
  jvm_step X.here [X.here.top, hx, hd, hm', hret, hn]
  first | (intro acts; rw [hl _ acts rfl rfl rfl]) | rw [hl _ _ rfl rfl rfl]
  exact Steps.refl _
end New
end Jvm.RoadKit
namespace Jvm.Pilot.@@N@@
open Jvm Jvm.ClassFile Sem Op Lib Jvm.Free Jvm.Stand Jvm.LawKit Jvm.RoadKit Bundle Jvm.Pilot.@@N@@.Jvm.D


theorem own_lt {x y : Int64} : lcmpW x y < 0 ↔ x < y := by rw [lcW]; exact lc_lt x y
theorem own_gt {x y : Int64} : 0 < lcmpW x y ↔ y < x := by rw [lcW]; exact lc_gt x y
theorem own_le {x y : Int64} : lcmpW x y = 0 ↔ x = y := by rw [lcW]; exact lc_eq x y

theorem d1_0 : decode prog_52_method_4_code 0 = .ok (.iload_n 0, 1) := by decide +kernel
theorem d1_1 : decode prog_52_method_4_code 1 = .ok (.sipush 500, 3) := by decide +kernel
theorem d1_4 : decode prog_52_method_4_code 4 = .ok (.if_icmp .lt 13, 3) := by decide +kernel
theorem d1_17 : decode prog_52_method_4_code 17 = .ok (.iconst 0, 1) := by decide +kernel
theorem d1_18 : decode prog_52_method_4_code 18 = .ok (.ireturn, 1) := by decide +kernel
theorem d1_7 : decode prog_52_method_4_code 7 = .ok (.iload_n 0, 1) := by decide +kernel
theorem d1_8 : decode prog_52_method_4_code 8 = .ok (.ldc 78, 2) := by decide +kernel
theorem d1_10 : decode prog_52_method_4_code 10 = .ok (.if_icmp .gt 7, 3) := by decide +kernel
theorem d1_13 : decode prog_52_method_4_code 13 = .ok (.iconst 1, 1) := by decide +kernel
theorem d1_14 : decode prog_52_method_4_code 14 = .ok (.goto 4, 3) := by decide +kernel
theorem pn_0 : plainName "com/example/parlour/parlour/typing/Practice" = true := by first | (simp [plainName, overriddenIn]; done) | decide +kernel
def f1 (p1 : Int32) : Int32 := if p1 < (500 : Int32) then (0 : Int32) else if (60000 : Int32) < p1 then (0 : Int32) else (1 : Int32)
theorem ef_1 (m : MethodId) (x0 : Int32) : entryFrame m #[(.int x0)] 1 = mkF m 0 #[.val (.int x0)] [] := by first | (simp [entryFrame, mkF, argsToLocals, Value.category]; done) | rfl
def Q1 (Z : State) (p1 : Int32) (h0 : Heap) (n0 : Nat) (v : Option Value) (h : Heap) (L : List Loc) : Prop := v = some (.int (f1 p1)) ∧ Fr n0 L ∧ h = h0
set_option maxRecDepth 65536 in
set_option maxHeartbeats 40000000 in
theorem rm1 (l : Launch) (Z : State) (a0 : Array Value) (hw : ∀ d ∈ tables_1, d.before a0 Z = true) (ws : List Jvm.Cond) (p1 : Int32) (h0 : Heap) (n0 : Nat) (Z0 : n0 ≤ h0.size) :
    MetFree l (⟨"com/example/parlour/parlour/typing/Practice", "allowsFall", "(I)Z"⟩ : MethodName) (head1 (Jvm.Cond.code (⟨"com/example/parlour/parlour/typing/Practice", "allowsFall", "(I)Z"⟩ : MethodName) prog_52_method_4_code 1 (some .boolean) :: ws) ({ frames := 0, cells := 0, slots := 0, locals := 0 } : Room)) (fun a U => a = #[(.int p1)] ∧ Z.Warmed39 U.vm ∧ U.heap = h0) (fun _ _ _ _ _ => True) (fun _ U o U' => ∃ v L, o = .returned v ∧ Q1 Z p1 h0 n0 v U'.heap L ∧ FrameEnd U o U' L ({ frames := 0, cells := 0, slots := 0, locals := 0 } : Room).cells ({ frames := 0, cells := 0, slots := 0, locals := 0 } : Room).slots) := by
  refine MetFree.of_bodySF (plainFor_of_name pn_0) hisR ?_
  intro p e s m args below meth c s₁ Bd hml0 hP hK
  obtain ⟨rfl, hZ, hh⟩ := hP
  have hx := Bd.exec
  have hby := Bd.bytes
  have hml : c.maxLocals = 1 := hml0
  have hown : s.vm.findClass "com/example/parlour/parlour/typing/Practice" = some m.cls := findClass_of_methodNamed Bd.named
  have hnm := (name_of_methodNamed Bd.named Bd.method).1
  have X0 : Stand p l e ({ frames := 0, cells := 0, slots := 0, locals := 0 } : Room) s m #[(.int p1)] below meth c s₁ [] 0 0 := Stand.of_body Bd
  have e0 : s₁.heap = h0 := by rw [← hh, Bd.state]; rfl
  have N0 := Fr.nil n0
  have pre0 : ∀ t, Steps p.tables e below (s₁.setTop (mkF m 0 #[.val (.int p1)] [])) t → Steps p.tables e below (s₁.setTop (entryFrame m #[(.int p1)] 1)) t := fun t k => castTop (ef_1 m p1) k
  have pre1 : ∀ t, Steps p.tables e below (s₁.setTop (mkF m 4 #[.val (.int p1)] [(.int (500 : Int32)), (.int p1)])) t → Steps p.tables e below (s₁.setTop (entryFrame m #[(.int p1)] 1)) t := fun t k => pre0 t (by
    show Steps p.tables e below (s₁.setTop (mkF m 0 #[.val (.int p1)] [])) _
    refine XS.iloadN X0.here hx rfl (hb hby d1_0) rfl ?_
    show Steps p.tables e below (s₁.setTop (mkF m 1 #[.val (.int p1)] [(.int p1)])) _
    refine XS.sipush X0.here hx rfl (hb hby d1_1) ?_
    exact k)
  by_cases hc2 : p1 < (500 : Int32)
  · obtain ⟨fs, hr, hrun, hended, hW, hsame⟩ := X0.leave (v := some (.int (0 : Int32))) (fun h => by rw [Bd.returns] at h; cases h)
    refine ⟨_, _, pre1 _ ?_, hrun, hended, _, _, rfl, ?_, ⟨_, rfl⟩, hW, hsame.mono (by decide) (by decide)⟩
    · show Steps p.tables e below (s₁.setTop (mkF m 4 #[.val (.int p1)] [(.int (500 : Int32)), (.int p1)])) _
      refine XS.icmpYes X0.here hx rfl (pc0 := 4) (pc' := 17) rfl (hb hby d1_4) rfl (tlt hc2).1 (by decide) (by decide) ?_
      show Steps p.tables e below (s₁.setTop (mkF m 17 #[.val (.int p1)] [])) _
      refine XS.iconst X0.here hx rfl (hb hby d1_17) ?_
      show Steps p.tables e below (s₁.setTop (mkF m 18 #[.val (.int p1)] [(.int (0 : Int32))])) _
      exact retN X0 hx (t := .boolean) Bd.returns (by simp) (hb hby d1_18) hr
    · show Q1 Z p1 h0 n0 _ s₁.heap _
      rw [e0]
      exact ⟨by rw [show (f1 p1) = (0 : Int32) from by first | (rw [f1, if_pos hc2]; done) | (simp only [f1, if_pos hc2]; done) | rfl], N0, rfl⟩
  · have pre4 : ∀ t, Steps p.tables e below (s₁.setTop (mkF m 10 #[.val (.int p1)] [(.int (60000 : Int32)), (.int p1)])) t → Steps p.tables e below (s₁.setTop (entryFrame m #[(.int p1)] 1)) t := fun t k => pre1 t (by
      show Steps p.tables e below (s₁.setTop (mkF m 4 #[.val (.int p1)] [(.int (500 : Int32)), (.int p1)])) _
      refine XS.icmpNo X0.here hx rfl (hb hby d1_4) rfl (flt hc2).1 ?_
      show Steps p.tables e below (s₁.setTop (mkF m 7 #[.val (.int p1)] [])) _
      refine XS.iloadN X0.here hx rfl (hb hby d1_7) rfl ?_
      show Steps p.tables e below (s₁.setTop (mkF m 8 #[.val (.int p1)] [(.int p1)])) _
      refine X0.ldcInt hx hown (mvT hZ (hw _ (List.mem_of_getElem? (i := 11) rfl))) (g := (mkF m 8 #[.val (.int p1)] [(.int p1)])) rfl (hb hby d1_8) _ ?_
      exact k)
    by_cases hc5 : (60000 : Int32) < p1
    · obtain ⟨fs, hr, hrun, hended, hW, hsame⟩ := X0.leave (v := some (.int (0 : Int32))) (fun h => by rw [Bd.returns] at h; cases h)
      refine ⟨_, _, pre4 _ ?_, hrun, hended, _, _, rfl, ?_, ⟨_, rfl⟩, hW, hsame.mono (by decide) (by decide)⟩
      · show Steps p.tables e below (s₁.setTop (mkF m 10 #[.val (.int p1)] [(.int (60000 : Int32)), (.int p1)])) _
        refine XS.icmpYes X0.here hx rfl (pc0 := 10) (pc' := 17) rfl (hb hby d1_10) rfl (tlt hc5).2.2.1 (by decide) (by decide) ?_
        show Steps p.tables e below (s₁.setTop (mkF m 17 #[.val (.int p1)] [])) _
        refine XS.iconst X0.here hx rfl (hb hby d1_17) ?_
        show Steps p.tables e below (s₁.setTop (mkF m 18 #[.val (.int p1)] [(.int (0 : Int32))])) _
        exact retN X0 hx (t := .boolean) Bd.returns (by simp) (hb hby d1_18) hr
      · show Q1 Z p1 h0 n0 _ s₁.heap _
        rw [e0]
        exact ⟨by rw [show (f1 p1) = (0 : Int32) from by first | (rw [f1, if_neg hc2, if_pos hc5]; done) | (simp only [f1, if_neg hc2, if_pos hc5]; done) | rfl], N0, rfl⟩
    · obtain ⟨fs, hr, hrun, hended, hW, hsame⟩ := X0.leave (v := some (.int (1 : Int32))) (fun h => by rw [Bd.returns] at h; cases h)
      refine ⟨_, _, pre4 _ ?_, hrun, hended, _, _, rfl, ?_, ⟨_, rfl⟩, hW, hsame.mono (by decide) (by decide)⟩
      · show Steps p.tables e below (s₁.setTop (mkF m 10 #[.val (.int p1)] [(.int (60000 : Int32)), (.int p1)])) _
        refine XS.icmpNo X0.here hx rfl (hb hby d1_10) rfl (flt hc5).2.2.1 ?_
        show Steps p.tables e below (s₁.setTop (mkF m 13 #[.val (.int p1)] [])) _
        refine XS.iconst X0.here hx rfl (hb hby d1_13) ?_
        show Steps p.tables e below (s₁.setTop (mkF m 14 #[.val (.int p1)] [(.int (1 : Int32))])) _
        refine XS.goto X0.here hx rfl (pc0 := 14) (pc' := 18) rfl (hb hby d1_14) (by decide) (by decide) ?_
        show Steps p.tables e below (s₁.setTop (mkF m 18 #[.val (.int p1)] [(.int (1 : Int32))])) _
        exact retN X0 hx (t := .boolean) Bd.returns (by simp) (hb hby d1_18) hr
      · show Q1 Z p1 h0 n0 _ s₁.heap _
        rw [e0]
        exact ⟨by rw [show (f1 p1) = (1 : Int32) from by first | (rw [f1, if_neg hc2, if_neg hc5]; done) | (simp only [f1, if_neg hc2, if_neg hc5]; done) | rfl], N0, rfl⟩
theorem d2_0 : decode method_2_code 0 = .ok (.iload_n 0, 1) := by decide +kernel
theorem d2_1 : decode method_2_code 1 = .ok (.i2l, 1) := by decide +kernel
theorem d2_2 : decode method_2_code 2 = .ok (.ldc2_w 7, 3) := by decide +kernel
theorem d2_5 : decode method_2_code 5 = .ok (.lsub, 1) := by decide +kernel
theorem d2_6 : decode method_2_code 6 = .ok (.lstore_n 1, 1) := by decide +kernel
theorem d2_7 : decode method_2_code 7 = .ok (.lload_n 1, 1) := by decide +kernel
theorem d2_8 : decode method_2_code 8 = .ok (.lconst 0, 1) := by decide +kernel
theorem d2_9 : decode method_2_code 9 = .ok (.lcmp, 1) := by decide +kernel
theorem d2_10 : decode method_2_code 10 = .ok (.ifCond .lt 15, 3) := by decide +kernel
theorem d2_25 : decode method_2_code 25 = .ok (.iconst 0, 1) := by decide +kernel
theorem d2_26 : decode method_2_code 26 = .ok (.ireturn, 1) := by decide +kernel
theorem d2_13 : decode method_2_code 13 = .ok (.lload_n 1, 1) := by decide +kernel
theorem d2_14 : decode method_2_code 14 = .ok (.ldc2_w 9, 3) := by decide +kernel
theorem d2_17 : decode method_2_code 17 = .ok (.lcmp, 1) := by decide +kernel
theorem d2_18 : decode method_2_code 18 = .ok (.ifCond .gt 7, 3) := by decide +kernel
theorem d2_21 : decode method_2_code 21 = .ok (.iconst 1, 1) := by decide +kernel
theorem d2_22 : decode method_2_code 22 = .ok (.goto 4, 3) := by decide +kernel
theorem pn_1 : plainName "com/example/parlour/parlour/typing/PracticeAllowsFallPinLaw" = true := by first | (simp [plainName, overriddenIn]; done) | decide +kernel
def f2 (p1 : Int32) : Int32 := if (lcmpW ((p1.toInt64) - (500 : Int64)) (0 : Int64)) < (0 : Int32) then (0 : Int32) else if (0 : Int32) < (lcmpW ((p1.toInt64) - (500 : Int64)) (59500 : Int64)) then (0 : Int32) else (1 : Int32)
theorem ef_2 (m : MethodId) (x0 : Int32) : entryFrame m #[(.int x0)] 3 = mkF m 0 #[.val (.int x0), .unset, .unset] [] := by first | (simp [entryFrame, mkF, argsToLocals, Value.category]; done) | rfl
def Q2 (Z : State) (p1 : Int32) (h0 : Heap) (n0 : Nat) (v : Option Value) (h : Heap) (L : List Loc) : Prop := v = some (.int (f2 p1)) ∧ Fr n0 L ∧ h = h0
set_option maxRecDepth 65536 in
set_option maxHeartbeats 40000000 in
theorem rm2 (l : Launch) (Z : State) (a0 : Array Value) (hw : ∀ d ∈ tables_1, d.before a0 Z = true) (ws : List Jvm.Cond) (p1 : Int32) (h0 : Heap) (n0 : Nat) (Z0 : n0 ≤ h0.size) :
    MetFree l (⟨"com/example/parlour/parlour/typing/PracticeAllowsFallPinLaw", "expected", "(I)Z"⟩ : MethodName) (head1 (Jvm.Cond.code (⟨"com/example/parlour/parlour/typing/PracticeAllowsFallPinLaw", "expected", "(I)Z"⟩ : MethodName) method_2_code 3 (some .boolean) :: ws) ({ frames := 0, cells := 0, slots := 0, locals := 0 } : Room)) (fun a U => a = #[(.int p1)] ∧ Z.Warmed39 U.vm ∧ U.heap = h0) (fun _ _ _ _ _ => True) (fun _ U o U' => ∃ v L, o = .returned v ∧ Q2 Z p1 h0 n0 v U'.heap L ∧ FrameEnd U o U' L ({ frames := 0, cells := 0, slots := 0, locals := 0 } : Room).cells ({ frames := 0, cells := 0, slots := 0, locals := 0 } : Room).slots) := by
  refine MetFree.of_bodySF (plainFor_of_name pn_1) hisR ?_
  intro p e s m args below meth c s₁ Bd hml0 hP hK
  obtain ⟨rfl, hZ, hh⟩ := hP
  have hx := Bd.exec
  have hby := Bd.bytes
  have hml : c.maxLocals = 3 := hml0
  have hown : s.vm.findClass "com/example/parlour/parlour/typing/PracticeAllowsFallPinLaw" = some m.cls := findClass_of_methodNamed Bd.named
  have hnm := (name_of_methodNamed Bd.named Bd.method).1
  have X0 : Stand p l e ({ frames := 0, cells := 0, slots := 0, locals := 0 } : Room) s m #[(.int p1)] below meth c s₁ [] 0 0 := Stand.of_body Bd
  have e0 : s₁.heap = h0 := by rw [← hh, Bd.state]; rfl
  have N0 := Fr.nil n0
  have pre0 : ∀ t, Steps p.tables e below (s₁.setTop (mkF m 0 #[.val (.int p1), .unset, .unset] [])) t → Steps p.tables e below (s₁.setTop (entryFrame m #[(.int p1)] 3)) t := fun t k => castTop (ef_2 m p1) k
  have pre1 : ∀ t, Steps p.tables e below (s₁.setTop (mkF m 10 #[.val (.int p1), .val (.long ((p1.toInt64) - (500 : Int64))), .second] [(.int (lcmpW ((p1.toInt64) - (500 : Int64)) (0 : Int64)))])) t → Steps p.tables e below (s₁.setTop (entryFrame m #[(.int p1)] 3)) t := fun t k => pre0 t (by
    show Steps p.tables e below (s₁.setTop (mkF m 0 #[.val (.int p1), .unset, .unset] [])) _
    refine XS.iloadN X0.here hx rfl (hb hby d2_0) rfl ?_
    show Steps p.tables e below (s₁.setTop (mkF m 1 #[.val (.int p1), .unset, .unset] [(.int p1)])) _
    refine XS.i2l X0.here hx rfl (hb hby d2_1) rfl ?_
    show Steps p.tables e below (s₁.setTop (mkF m 2 #[.val (.int p1), .unset, .unset] [(.long (p1.toInt64))])) _
    refine X0.ldc2Long hx hown (mvT hZ (hw _ (List.mem_of_getElem? (i := 8) rfl))) (g := (mkF m 2 #[.val (.int p1), .unset, .unset] [(.long (p1.toInt64))])) rfl (hb hby d2_2) _ ?_
    show Steps p.tables e below (s₁.setTop (mkF m 5 #[.val (.int p1), .unset, .unset] [(.long (500 : Int64)), (.long (p1.toInt64))])) _
    refine XS.lsub X0.here hx rfl (hb hby d2_5) rfl ?_
    show Steps p.tables e below (s₁.setTop (mkF m 6 #[.val (.int p1), .unset, .unset] [(.long ((p1.toInt64) - (500 : Int64)))])) _
    refine XS.lstoreN X0.here hx rfl (hb hby d2_6) rfl (l' := #[.val (.int p1), .val (.long ((p1.toInt64) - (500 : Int64))), .second]) rfl ?_
    show Steps p.tables e below (s₁.setTop (mkF m 7 #[.val (.int p1), .val (.long ((p1.toInt64) - (500 : Int64))), .second] [])) _
    refine XS.lloadN X0.here hx rfl (hb hby d2_7) rfl ?_
    show Steps p.tables e below (s₁.setTop (mkF m 8 #[.val (.int p1), .val (.long ((p1.toInt64) - (500 : Int64))), .second] [(.long ((p1.toInt64) - (500 : Int64)))])) _
    refine XS.lconst X0.here hx rfl (hb hby d2_8) ?_
    show Steps p.tables e below (s₁.setTop (mkF m 9 #[.val (.int p1), .val (.long ((p1.toInt64) - (500 : Int64))), .second] [(.long (0 : Int64)), (.long ((p1.toInt64) - (500 : Int64)))])) _
    refine XS.lcmp X0.here hx rfl (hb hby d2_9) rfl ?_
    exact k)
  by_cases hc2 : (lcmpW ((p1.toInt64) - (500 : Int64)) (0 : Int64)) < (0 : Int32)
  · obtain ⟨fs, hr, hrun, hended, hW, hsame⟩ := X0.leave (v := some (.int (0 : Int32))) (fun h => by rw [Bd.returns] at h; cases h)
    refine ⟨_, _, pre1 _ ?_, hrun, hended, _, _, rfl, ?_, ⟨_, rfl⟩, hW, hsame.mono (by decide) (by decide)⟩
    · show Steps p.tables e below (s₁.setTop (mkF m 10 #[.val (.int p1), .val (.long ((p1.toInt64) - (500 : Int64))), .second] [(.int (lcmpW ((p1.toInt64) - (500 : Int64)) (0 : Int64)))])) _
      refine XS.ifYes X0.here hx rfl (pc0 := 10) (pc' := 25) rfl (hb hby d2_10) rfl ((if0 _ _).trans (tlt hc2).1) (by decide) (by decide) ?_
      show Steps p.tables e below (s₁.setTop (mkF m 25 #[.val (.int p1), .val (.long ((p1.toInt64) - (500 : Int64))), .second] [])) _
      refine XS.iconst X0.here hx rfl (hb hby d2_25) ?_
      show Steps p.tables e below (s₁.setTop (mkF m 26 #[.val (.int p1), .val (.long ((p1.toInt64) - (500 : Int64))), .second] [(.int (0 : Int32))])) _
      exact retN X0 hx (t := .boolean) Bd.returns (by simp) (hb hby d2_26) hr
    · show Q2 Z p1 h0 n0 _ s₁.heap _
      rw [e0]
      exact ⟨by rw [show (f2 p1) = (0 : Int32) from by first | (rw [f2, if_pos hc2]; done) | (simp only [f2, if_pos hc2]; done) | rfl], N0, rfl⟩
  · have pre4 : ∀ t, Steps p.tables e below (s₁.setTop (mkF m 18 #[.val (.int p1), .val (.long ((p1.toInt64) - (500 : Int64))), .second] [(.int (lcmpW ((p1.toInt64) - (500 : Int64)) (59500 : Int64)))])) t → Steps p.tables e below (s₁.setTop (entryFrame m #[(.int p1)] 3)) t := fun t k => pre1 t (by
      show Steps p.tables e below (s₁.setTop (mkF m 10 #[.val (.int p1), .val (.long ((p1.toInt64) - (500 : Int64))), .second] [(.int (lcmpW ((p1.toInt64) - (500 : Int64)) (0 : Int64)))])) _
      refine XS.ifNo X0.here hx rfl (hb hby d2_10) rfl ((if0 _ _).trans (flt hc2).1) ?_
      show Steps p.tables e below (s₁.setTop (mkF m 13 #[.val (.int p1), .val (.long ((p1.toInt64) - (500 : Int64))), .second] [])) _
      refine XS.lloadN X0.here hx rfl (hb hby d2_13) rfl ?_
      show Steps p.tables e below (s₁.setTop (mkF m 14 #[.val (.int p1), .val (.long ((p1.toInt64) - (500 : Int64))), .second] [(.long ((p1.toInt64) - (500 : Int64)))])) _
      refine X0.ldc2Long hx hown (mvT hZ (hw _ (List.mem_of_getElem? (i := 12) rfl))) (g := (mkF m 14 #[.val (.int p1), .val (.long ((p1.toInt64) - (500 : Int64))), .second] [(.long ((p1.toInt64) - (500 : Int64)))])) rfl (hb hby d2_14) _ ?_
      show Steps p.tables e below (s₁.setTop (mkF m 17 #[.val (.int p1), .val (.long ((p1.toInt64) - (500 : Int64))), .second] [(.long (59500 : Int64)), (.long ((p1.toInt64) - (500 : Int64)))])) _
      refine XS.lcmp X0.here hx rfl (hb hby d2_17) rfl ?_
      exact k)
    by_cases hc5 : (0 : Int32) < (lcmpW ((p1.toInt64) - (500 : Int64)) (59500 : Int64))
    · obtain ⟨fs, hr, hrun, hended, hW, hsame⟩ := X0.leave (v := some (.int (0 : Int32))) (fun h => by rw [Bd.returns] at h; cases h)
      refine ⟨_, _, pre4 _ ?_, hrun, hended, _, _, rfl, ?_, ⟨_, rfl⟩, hW, hsame.mono (by decide) (by decide)⟩
      · show Steps p.tables e below (s₁.setTop (mkF m 18 #[.val (.int p1), .val (.long ((p1.toInt64) - (500 : Int64))), .second] [(.int (lcmpW ((p1.toInt64) - (500 : Int64)) (59500 : Int64)))])) _
        refine XS.ifYes X0.here hx rfl (pc0 := 18) (pc' := 25) rfl (hb hby d2_18) rfl ((if0 _ _).trans (tlt hc5).2.2.1) (by decide) (by decide) ?_
        show Steps p.tables e below (s₁.setTop (mkF m 25 #[.val (.int p1), .val (.long ((p1.toInt64) - (500 : Int64))), .second] [])) _
        refine XS.iconst X0.here hx rfl (hb hby d2_25) ?_
        show Steps p.tables e below (s₁.setTop (mkF m 26 #[.val (.int p1), .val (.long ((p1.toInt64) - (500 : Int64))), .second] [(.int (0 : Int32))])) _
        exact retN X0 hx (t := .boolean) Bd.returns (by simp) (hb hby d2_26) hr
      · show Q2 Z p1 h0 n0 _ s₁.heap _
        rw [e0]
        exact ⟨by rw [show (f2 p1) = (0 : Int32) from by first | (rw [f2, if_neg hc2, if_pos hc5]; done) | (simp only [f2, if_neg hc2, if_pos hc5]; done) | rfl], N0, rfl⟩
    · obtain ⟨fs, hr, hrun, hended, hW, hsame⟩ := X0.leave (v := some (.int (1 : Int32))) (fun h => by rw [Bd.returns] at h; cases h)
      refine ⟨_, _, pre4 _ ?_, hrun, hended, _, _, rfl, ?_, ⟨_, rfl⟩, hW, hsame.mono (by decide) (by decide)⟩
      · show Steps p.tables e below (s₁.setTop (mkF m 18 #[.val (.int p1), .val (.long ((p1.toInt64) - (500 : Int64))), .second] [(.int (lcmpW ((p1.toInt64) - (500 : Int64)) (59500 : Int64)))])) _
        refine XS.ifNo X0.here hx rfl (hb hby d2_18) rfl ((if0 _ _).trans (flt hc5).2.2.1) ?_
        show Steps p.tables e below (s₁.setTop (mkF m 21 #[.val (.int p1), .val (.long ((p1.toInt64) - (500 : Int64))), .second] [])) _
        refine XS.iconst X0.here hx rfl (hb hby d2_21) ?_
        show Steps p.tables e below (s₁.setTop (mkF m 22 #[.val (.int p1), .val (.long ((p1.toInt64) - (500 : Int64))), .second] [(.int (1 : Int32))])) _
        refine XS.goto X0.here hx rfl (pc0 := 22) (pc' := 26) rfl (hb hby d2_22) (by decide) (by decide) ?_
        show Steps p.tables e below (s₁.setTop (mkF m 26 #[.val (.int p1), .val (.long ((p1.toInt64) - (500 : Int64))), .second] [(.int (1 : Int32))])) _
        exact retN X0 hx (t := .boolean) Bd.returns (by simp) (hb hby d2_26) hr
      · show Q2 Z p1 h0 n0 _ s₁.heap _
        rw [e0]
        exact ⟨by rw [show (f2 p1) = (1 : Int32) from by first | (rw [f2, if_neg hc2, if_neg hc5]; done) | (simp only [f2, if_neg hc2, if_neg hc5]; done) | rfl], N0, rfl⟩
theorem pd_0 : parseMethodDescriptor "(I)Z" = some ⟨[.int], some .boolean⟩ := by decide +kernel
def m0_4_0 (p1 : Int32) : Int32 := (if (f1 p1) = (f2 p1) then (1 : Int32) else (0 : Int32))
def m0_9_0 (p2 : Int32) : Int32 := (if (f1 ((499 : Int32) + ((p2 &&& (65535 : Int32)) % (59503 : Int32)))) = (f2 ((499 : Int32) + ((p2 &&& (65535 : Int32)) % (59503 : Int32)))) then (1 : Int32) else (0 : Int32))
def m0_13_0  : Int32 := (if (f1 (500 : Int32)) = (0 : Int32) then (0 : Int32) else (if (f1 (60000 : Int32)) = (0 : Int32) then (0 : Int32) else (if (f1 (499 : Int32)) = (0 : Int32) then (if (f1 (60001 : Int32)) = (0 : Int32) then (1 : Int32) else (0 : Int32)) else (0 : Int32))))
def f0 (p1 : Int32) (p2 : Int32) : Int32 := if (m0_4_0 p1) = (0 : Int32) then (0 : Int32) else if (m0_9_0 p2) = (0 : Int32) then (0 : Int32) else if (m0_13_0) = (0 : Int32) then (0 : Int32) else (1 : Int32)
theorem ef_0 (m : MethodId) (x0 : Int32) (x1 : Int32) : entryFrame m #[(.int x0), (.int x1)] maxLocals = mkF m 0 #[.val (.int x0), .val (.int x1), .unset, .unset, .unset, .unset] [] := by first | (simp [entryFrame, mkF, argsToLocals, Value.category, maxLocals]; done) | rfl
def Q0 (Z : State) (p1 : Int32) (p2 : Int32) (h0 : Heap) (n0 : Nat) (v : Option Value) (h : Heap) (L : List Loc) : Prop := v = some (.int (f0 p1 p2)) ∧ Fr n0 L
set_option maxRecDepth 65536 in
set_option maxHeartbeats 40000000 in
theorem rm0 (l : Launch) (Z : State) (a0 : Array Value) (hw : ∀ d ∈ tables_1, d.before a0 Z = true) (ws : List Jvm.Cond) (p1 : Int32) (p2 : Int32) (h0 : Heap) (n0 : Nat) (Z0 : n0 ≤ h0.size) :
    MetFree l x (head1 (Jvm.Cond.code x code maxLocals ret :: ws) room_1) (fun a U => a = #[(.int p1), (.int p2)] ∧ Z.Warmed39 U.vm ∧ U.heap = h0) (fun _ _ _ _ _ => True) (fun _ U o U' => ∃ v L, o = .returned v ∧ Q0 Z p1 p2 h0 n0 v U'.heap L ∧ FrameEnd U o U' L room_1.cells room_1.slots) := by
  refine MetFree.of_bodySF (plainFor_of_name pn_1) hisR ?_
  intro p e s m args below meth c s₁ Bd hml0 hP hK
  obtain ⟨rfl, hZ, hh⟩ := hP
  have hx := Bd.exec
  have hby := Bd.bytes
  have hml : c.maxLocals = 6 := hml0
  have hown : s.vm.findClass "com/example/parlour/parlour/typing/PracticeAllowsFallPinLaw" = some m.cls := findClass_of_methodNamed Bd.named
  have hnm := (name_of_methodNamed Bd.named Bd.method).1
  have X0 : Stand p l e room_1 s m #[(.int p1), (.int p2)] below meth c s₁ [] 0 0 := Stand.of_body Bd
  have e0 : s₁.heap = h0 := by rw [← hh, Bd.state]; rfl
  have N0 := Fr.nil n0
  have pre0 : ∀ t, Steps p.tables e below (s₁.setTop (mkF m 0 #[.val (.int p1), .val (.int p2), .unset, .unset, .unset, .unset] [])) t → Steps p.tables e below (s₁.setTop (entryFrame m #[(.int p1), (.int p2)] maxLocals)) t := fun t k => castTop (ef_0 m p1 p2) k
  obtain ⟨_, _, ⟨T1, L1, k1, n1⟩, -, X1, ⟨Lc1, hQ1, l1, y1, z1⟩, st1⟩ := Jvm.LawKit.callS X0 hx (y := (⟨"com/example/parlour/parlour/typing/Practice", "allowsFall", "(I)Z"⟩ : MethodName)) hown (mvT hZ (hw _ (List.mem_of_getElem? (i := 0) rfl))) (mvT hZ (hw _ (List.mem_of_getElem? (i := 1) rfl))) (mvT hZ (hw _ (List.mem_of_getElem? (i := 2) rfl))) (mvT hZ (hw _ (List.mem_of_getElem? (i := 3) rfl))) (by decide) (backOf (W := 0) (rm1 l Z a0 hw [] p1 h0 n0 Z0) hZ (hw _ (List.mem_of_getElem? (i := 3) rfl)) (hw _ (List.mem_of_getElem? (i := 2) rfl)) (by decide) (by decide)) (g := (mkF m 1 #[.val (.int p1), .val (.int p2), .unset, .unset, .unset, .unset] [(.int p1)])) rfl (by rw [hml]; rfl) (argsL := [(.int p1)]) (rest := []) (lenOf pd_0 rfl) rfl (by show 2 * 0 + _ ≤ _; exact Nat.le_of_eq rfl) (hb hby at_1) (fun _ _ => ⟨rfl, e0, (by decide : 0 + 0 ≤ _), (by decide : 0 + 0 ≤ _)⟩)
  dsimp only [Pt.U, Pt.locs, Pt.cells, Pt.slots] at X1 l1 y1 z1 st1 hQ1
  subst l1 y1 z1
  obtain ⟨rfl, N1q, e1⟩ := hQ1
  have N1 := Fr.app N0 N1q
  obtain ⟨_, _, ⟨T2, L2, k2, n2⟩, -, X2, ⟨Lc2, hQ2, l2, y2, z2⟩, st2⟩ := Jvm.LawKit.callS X1 hx (y := (⟨"com/example/parlour/parlour/typing/PracticeAllowsFallPinLaw", "expected", "(I)Z"⟩ : MethodName)) hown (mvT hZ (hw _ (List.mem_of_getElem? (i := 4) rfl))) (mvT hZ (hw _ (List.mem_of_getElem? (i := 5) rfl))) (mvT hZ (hw _ (List.mem_of_getElem? (i := 6) rfl))) (mvT hZ (hw _ (List.mem_of_getElem? (i := 7) rfl))) (by decide) (backOf (W := 1) (rm2 l Z a0 hw [] p1 h0 n0 Z0) hZ (hw _ (List.mem_of_getElem? (i := 7) rfl)) (hw _ (List.mem_of_getElem? (i := 6) rfl)) (by decide) (by decide)) (g := (mkF m 5 #[.val (.int p1), .val (.int p2), .unset, .unset, .unset, .unset] [(.int p1), (.int (f1 p1))])) rfl (by rw [hml]; rfl) (argsL := [(.int p1)]) (rest := [(.int (f1 p1))]) (lenOf pd_0 rfl) rfl (by show 2 * 0 + _ ≤ _; exact Nat.le_of_eq rfl) (hb hby at_5) (fun _ _ => ⟨rfl, e1, (by decide : 0 + 0 ≤ _), (by decide : 0 + 0 ≤ _)⟩)
  dsimp only [Pt.U, Pt.locs, Pt.cells, Pt.slots] at X2 l2 y2 z2 st2 hQ2
  subst l2 y2 z2
  obtain ⟨rfl, N2q, e2⟩ := hQ2
  have N2 := Fr.app N1 N2q
  have pre3 : ∀ t, Steps p.tables e below (T2.setTop (mkF m 8 #[.val (.int p1), .val (.int p2), .unset, .unset, .unset, .unset] [(.int (f2 p1)), (.int (f1 p1))])) t → Steps p.tables e below (s₁.setTop (entryFrame m #[(.int p1), (.int p2)] maxLocals)) t := fun t k => pre0 t (by
    show Steps p.tables e below (s₁.setTop (mkF m 0 #[.val (.int p1), .val (.int p2), .unset, .unset, .unset, .unset] [])) _
    refine XS.iloadN X0.here hx rfl (hb hby at_0) rfl ?_
    show Steps p.tables e below (s₁.setTop (mkF m 1 #[.val (.int p1), .val (.int p2), .unset, .unset, .unset, .unset] [(.int p1)])) _
    refine st1 _ ?_
    show Steps p.tables e below (T1.setTop (mkF m 4 #[.val (.int p1), .val (.int p2), .unset, .unset, .unset, .unset] [(.int (f1 p1))])) _
    refine XS.iloadN X1.here hx rfl (hb hby at_4) rfl ?_
    show Steps p.tables e below (T1.setTop (mkF m 5 #[.val (.int p1), .val (.int p2), .unset, .unset, .unset, .unset] [(.int p1), (.int (f1 p1))])) _
    refine st2 _ ?_
    exact k)
  have pre4 : ∀ t, Steps p.tables e below (T2.setTop (mkF m 16 #[.val (.int p1), .val (.int p2), .unset, .unset, .unset, .unset] [(.int (m0_4_0 p1))])) t → Steps p.tables e below (s₁.setTop (entryFrame m #[(.int p1), (.int p2)] maxLocals)) t := by
    intro t k
    by_cases hc5 : (f1 p1) = (f2 p1)
    · rw [show (m0_4_0 p1) = (1 : Int32) from by first | (rw [m0_4_0, if_pos hc5]; done) | (simp only [m0_4_0, if_pos hc5]; done) | rfl] at k
      refine pre3 t ?_
      show Steps p.tables e below (T2.setTop (mkF m 8 #[.val (.int p1), .val (.int p2), .unset, .unset, .unset, .unset] [(.int (f2 p1)), (.int (f1 p1))])) _
      refine XS.icmpNo X2.here hx rfl (hb hby at_8) rfl (teq hc5).2 ?_
      show Steps p.tables e below (T2.setTop (mkF m 11 #[.val (.int p1), .val (.int p2), .unset, .unset, .unset, .unset] [])) _
      refine XS.iconst X2.here hx rfl (hb hby at_11) ?_
      show Steps p.tables e below (T2.setTop (mkF m 12 #[.val (.int p1), .val (.int p2), .unset, .unset, .unset, .unset] [(.int (1 : Int32))])) _
      refine XS.goto X2.here hx rfl (pc0 := 12) (pc' := 16) rfl (hb hby at_12) (by decide) (by decide) ?_
      exact k
    · rw [show (m0_4_0 p1) = (0 : Int32) from by first | (rw [m0_4_0, if_neg hc5]; done) | (simp only [m0_4_0, if_neg hc5]; done) | rfl] at k
      refine pre3 t ?_
      show Steps p.tables e below (T2.setTop (mkF m 8 #[.val (.int p1), .val (.int p2), .unset, .unset, .unset, .unset] [(.int (f2 p1)), (.int (f1 p1))])) _
      refine XS.icmpYes X2.here hx rfl (pc0 := 8) (pc' := 15) rfl (hb hby at_8) rfl (feq hc5).2 (by decide) (by decide) ?_
      show Steps p.tables e below (T2.setTop (mkF m 15 #[.val (.int p1), .val (.int p2), .unset, .unset, .unset, .unset] [])) _
      refine XS.iconst X2.here hx rfl (hb hby at_15) ?_
      exact k
  obtain ⟨_, _, ⟨T6, L6, k6, n6⟩, -, X6, ⟨Lc6, hQ6, l6, y6, z6⟩, st6⟩ := Jvm.LawKit.callS X2 hx (y := (⟨"com/example/parlour/parlour/typing/Practice", "allowsFall", "(I)Z"⟩ : MethodName)) hown (mvT hZ (hw _ (List.mem_of_getElem? (i := 0) rfl))) (mvT hZ (hw _ (List.mem_of_getElem? (i := 1) rfl))) (mvT hZ (hw _ (List.mem_of_getElem? (i := 2) rfl))) (mvT hZ (hw _ (List.mem_of_getElem? (i := 3) rfl))) (by decide) (backOf (W := 0) (rm1 l Z a0 hw [] ((499 : Int32) + ((p2 &&& (65535 : Int32)) % (59503 : Int32))) h0 n0 Z0) hZ (hw _ (List.mem_of_getElem? (i := 3) rfl)) (hw _ (List.mem_of_getElem? (i := 2) rfl)) (by decide) (by decide)) (g := (mkF m 30 #[.val (.int p1), .val (.int p2), .val (.int (m0_4_0 p1)), .val (.int ((499 : Int32) + ((p2 &&& (65535 : Int32)) % (59503 : Int32)))), .unset, .unset] [(.int ((499 : Int32) + ((p2 &&& (65535 : Int32)) % (59503 : Int32))))])) rfl (by rw [hml]; rfl) (argsL := [(.int ((499 : Int32) + ((p2 &&& (65535 : Int32)) % (59503 : Int32))))]) (rest := []) (lenOf pd_0 rfl) rfl (by show 2 * 0 + _ ≤ _; exact Nat.le_of_eq rfl) (hb hby at_30) (fun _ _ => ⟨rfl, e2, (by decide : 0 + 0 ≤ _), (by decide : 0 + 0 ≤ _)⟩)
  dsimp only [Pt.U, Pt.locs, Pt.cells, Pt.slots] at X6 l6 y6 z6 st6 hQ6
  subst l6 y6 z6
  obtain ⟨rfl, N6q, e6⟩ := hQ6
  have N6 := Fr.app N2 N6q
  obtain ⟨_, _, ⟨T7, L7, k7, n7⟩, -, X7, ⟨Lc7, hQ7, l7, y7, z7⟩, st7⟩ := Jvm.LawKit.callS X6 hx (y := (⟨"com/example/parlour/parlour/typing/PracticeAllowsFallPinLaw", "expected", "(I)Z"⟩ : MethodName)) hown (mvT hZ (hw _ (List.mem_of_getElem? (i := 4) rfl))) (mvT hZ (hw _ (List.mem_of_getElem? (i := 5) rfl))) (mvT hZ (hw _ (List.mem_of_getElem? (i := 6) rfl))) (mvT hZ (hw _ (List.mem_of_getElem? (i := 7) rfl))) (by decide) (backOf (W := 1) (rm2 l Z a0 hw [] ((499 : Int32) + ((p2 &&& (65535 : Int32)) % (59503 : Int32))) h0 n0 Z0) hZ (hw _ (List.mem_of_getElem? (i := 7) rfl)) (hw _ (List.mem_of_getElem? (i := 6) rfl)) (by decide) (by decide)) (g := (mkF m 34 #[.val (.int p1), .val (.int p2), .val (.int (m0_4_0 p1)), .val (.int ((499 : Int32) + ((p2 &&& (65535 : Int32)) % (59503 : Int32)))), .unset, .unset] [(.int ((499 : Int32) + ((p2 &&& (65535 : Int32)) % (59503 : Int32)))), (.int (f1 ((499 : Int32) + ((p2 &&& (65535 : Int32)) % (59503 : Int32)))))])) rfl (by rw [hml]; rfl) (argsL := [(.int ((499 : Int32) + ((p2 &&& (65535 : Int32)) % (59503 : Int32))))]) (rest := [(.int (f1 ((499 : Int32) + ((p2 &&& (65535 : Int32)) % (59503 : Int32)))))]) (lenOf pd_0 rfl) rfl (by show 2 * 0 + _ ≤ _; exact Nat.le_of_eq rfl) (hb hby at_34) (fun _ _ => ⟨rfl, e6, (by decide : 0 + 0 ≤ _), (by decide : 0 + 0 ≤ _)⟩)
  dsimp only [Pt.U, Pt.locs, Pt.cells, Pt.slots] at X7 l7 y7 z7 st7 hQ7
  subst l7 y7 z7
  obtain ⟨rfl, N7q, e7⟩ := hQ7
  have N7 := Fr.app N6 N7q
  have pre8 : ∀ t, Steps p.tables e below (T7.setTop (mkF m 37 #[.val (.int p1), .val (.int p2), .val (.int (m0_4_0 p1)), .val (.int ((499 : Int32) + ((p2 &&& (65535 : Int32)) % (59503 : Int32)))), .unset, .unset] [(.int (f2 ((499 : Int32) + ((p2 &&& (65535 : Int32)) % (59503 : Int32))))), (.int (f1 ((499 : Int32) + ((p2 &&& (65535 : Int32)) % (59503 : Int32)))))])) t → Steps p.tables e below (s₁.setTop (entryFrame m #[(.int p1), (.int p2)] maxLocals)) t := fun t k => pre4 t (by
    show Steps p.tables e below (T2.setTop (mkF m 16 #[.val (.int p1), .val (.int p2), .unset, .unset, .unset, .unset] [(.int (m0_4_0 p1))])) _
    refine XS.istoreN X2.here hx rfl (hb hby at_16) rfl (l' := #[.val (.int p1), .val (.int p2), .val (.int (m0_4_0 p1)), .unset, .unset, .unset]) rfl ?_
    show Steps p.tables e below (T2.setTop (mkF m 17 #[.val (.int p1), .val (.int p2), .val (.int (m0_4_0 p1)), .unset, .unset, .unset] [])) _
    refine XS.sipush X2.here hx rfl (hb hby at_17) ?_
    show Steps p.tables e below (T2.setTop (mkF m 20 #[.val (.int p1), .val (.int p2), .val (.int (m0_4_0 p1)), .unset, .unset, .unset] [(.int (499 : Int32))])) _
    refine XS.iloadN X2.here hx rfl (hb hby at_20) rfl ?_
    show Steps p.tables e below (T2.setTop (mkF m 21 #[.val (.int p1), .val (.int p2), .val (.int (m0_4_0 p1)), .unset, .unset, .unset] [(.int p2), (.int (499 : Int32))])) _
    refine X2.ldcInt hx hown (mvT hZ (hw _ (List.mem_of_getElem? (i := 9) rfl))) (g := (mkF m 21 #[.val (.int p1), .val (.int p2), .val (.int (m0_4_0 p1)), .unset, .unset, .unset] [(.int p2), (.int (499 : Int32))])) rfl (hb hby at_21) _ ?_
    show Steps p.tables e below (T2.setTop (mkF m 23 #[.val (.int p1), .val (.int p2), .val (.int (m0_4_0 p1)), .unset, .unset, .unset] [(.int (65535 : Int32)), (.int p2), (.int (499 : Int32))])) _
    refine XS.iand X2.here hx rfl (hb hby at_23) rfl ?_
    show Steps p.tables e below (T2.setTop (mkF m 24 #[.val (.int p1), .val (.int p2), .val (.int (m0_4_0 p1)), .unset, .unset, .unset] [(.int (p2 &&& (65535 : Int32))), (.int (499 : Int32))])) _
    refine X2.ldcInt hx hown (mvT hZ (hw _ (List.mem_of_getElem? (i := 10) rfl))) (g := (mkF m 24 #[.val (.int p1), .val (.int p2), .val (.int (m0_4_0 p1)), .unset, .unset, .unset] [(.int (p2 &&& (65535 : Int32))), (.int (499 : Int32))])) rfl (hb hby at_24) _ ?_
    show Steps p.tables e below (T2.setTop (mkF m 26 #[.val (.int p1), .val (.int p2), .val (.int (m0_4_0 p1)), .unset, .unset, .unset] [(.int (59503 : Int32)), (.int (p2 &&& (65535 : Int32))), (.int (499 : Int32))])) _
    refine iremM X2 hx rfl (hb hby at_26) rfl (by decide) ?_
    show Steps p.tables e below (T2.setTop (mkF m 27 #[.val (.int p1), .val (.int p2), .val (.int (m0_4_0 p1)), .unset, .unset, .unset] [(.int ((p2 &&& (65535 : Int32)) % (59503 : Int32))), (.int (499 : Int32))])) _
    refine XS.iadd X2.here hx rfl (hb hby at_27) rfl ?_
    show Steps p.tables e below (T2.setTop (mkF m 28 #[.val (.int p1), .val (.int p2), .val (.int (m0_4_0 p1)), .unset, .unset, .unset] [(.int ((499 : Int32) + ((p2 &&& (65535 : Int32)) % (59503 : Int32))))])) _
    refine XS.istoreN X2.here hx rfl (hb hby at_28) rfl (l' := #[.val (.int p1), .val (.int p2), .val (.int (m0_4_0 p1)), .val (.int ((499 : Int32) + ((p2 &&& (65535 : Int32)) % (59503 : Int32)))), .unset, .unset]) rfl ?_
    show Steps p.tables e below (T2.setTop (mkF m 29 #[.val (.int p1), .val (.int p2), .val (.int (m0_4_0 p1)), .val (.int ((499 : Int32) + ((p2 &&& (65535 : Int32)) % (59503 : Int32)))), .unset, .unset] [])) _
    refine XS.iloadN X2.here hx rfl (hb hby at_29) rfl ?_
    show Steps p.tables e below (T2.setTop (mkF m 30 #[.val (.int p1), .val (.int p2), .val (.int (m0_4_0 p1)), .val (.int ((499 : Int32) + ((p2 &&& (65535 : Int32)) % (59503 : Int32)))), .unset, .unset] [(.int ((499 : Int32) + ((p2 &&& (65535 : Int32)) % (59503 : Int32))))])) _
    refine st6 _ ?_
    show Steps p.tables e below (T6.setTop (mkF m 33 #[.val (.int p1), .val (.int p2), .val (.int (m0_4_0 p1)), .val (.int ((499 : Int32) + ((p2 &&& (65535 : Int32)) % (59503 : Int32)))), .unset, .unset] [(.int (f1 ((499 : Int32) + ((p2 &&& (65535 : Int32)) % (59503 : Int32)))))])) _
    refine XS.iloadN X6.here hx rfl (hb hby at_33) rfl ?_
    show Steps p.tables e below (T6.setTop (mkF m 34 #[.val (.int p1), .val (.int p2), .val (.int (m0_4_0 p1)), .val (.int ((499 : Int32) + ((p2 &&& (65535 : Int32)) % (59503 : Int32)))), .unset, .unset] [(.int ((499 : Int32) + ((p2 &&& (65535 : Int32)) % (59503 : Int32)))), (.int (f1 ((499 : Int32) + ((p2 &&& (65535 : Int32)) % (59503 : Int32)))))])) _
    refine st7 _ ?_
    exact k)
  have pre9 : ∀ t, Steps p.tables e below (T7.setTop (mkF m 45 #[.val (.int p1), .val (.int p2), .val (.int (m0_4_0 p1)), .val (.int ((499 : Int32) + ((p2 &&& (65535 : Int32)) % (59503 : Int32)))), .unset, .unset] [(.int (m0_9_0 p2))])) t → Steps p.tables e below (s₁.setTop (entryFrame m #[(.int p1), (.int p2)] maxLocals)) t := by
    intro t k
    by_cases hc10 : (f1 ((499 : Int32) + ((p2 &&& (65535 : Int32)) % (59503 : Int32)))) = (f2 ((499 : Int32) + ((p2 &&& (65535 : Int32)) % (59503 : Int32))))
    · rw [show (m0_9_0 p2) = (1 : Int32) from by first | (rw [m0_9_0, if_pos hc10]; done) | (simp only [m0_9_0, if_pos hc10]; done) | rfl] at k
      refine pre8 t ?_
      show Steps p.tables e below (T7.setTop (mkF m 37 #[.val (.int p1), .val (.int p2), .val (.int (m0_4_0 p1)), .val (.int ((499 : Int32) + ((p2 &&& (65535 : Int32)) % (59503 : Int32)))), .unset, .unset] [(.int (f2 ((499 : Int32) + ((p2 &&& (65535 : Int32)) % (59503 : Int32))))), (.int (f1 ((499 : Int32) + ((p2 &&& (65535 : Int32)) % (59503 : Int32)))))])) _
      refine XS.icmpNo X7.here hx rfl (hb hby at_37) rfl (teq hc10).2 ?_
      show Steps p.tables e below (T7.setTop (mkF m 40 #[.val (.int p1), .val (.int p2), .val (.int (m0_4_0 p1)), .val (.int ((499 : Int32) + ((p2 &&& (65535 : Int32)) % (59503 : Int32)))), .unset, .unset] [])) _
      refine XS.iconst X7.here hx rfl (hb hby at_40) ?_
      show Steps p.tables e below (T7.setTop (mkF m 41 #[.val (.int p1), .val (.int p2), .val (.int (m0_4_0 p1)), .val (.int ((499 : Int32) + ((p2 &&& (65535 : Int32)) % (59503 : Int32)))), .unset, .unset] [(.int (1 : Int32))])) _
      refine XS.goto X7.here hx rfl (pc0 := 41) (pc' := 45) rfl (hb hby at_41) (by decide) (by decide) ?_
      exact k
    · rw [show (m0_9_0 p2) = (0 : Int32) from by first | (rw [m0_9_0, if_neg hc10]; done) | (simp only [m0_9_0, if_neg hc10]; done) | rfl] at k
      refine pre8 t ?_
      show Steps p.tables e below (T7.setTop (mkF m 37 #[.val (.int p1), .val (.int p2), .val (.int (m0_4_0 p1)), .val (.int ((499 : Int32) + ((p2 &&& (65535 : Int32)) % (59503 : Int32)))), .unset, .unset] [(.int (f2 ((499 : Int32) + ((p2 &&& (65535 : Int32)) % (59503 : Int32))))), (.int (f1 ((499 : Int32) + ((p2 &&& (65535 : Int32)) % (59503 : Int32)))))])) _
      refine XS.icmpYes X7.here hx rfl (pc0 := 37) (pc' := 44) rfl (hb hby at_37) rfl (feq hc10).2 (by decide) (by decide) ?_
      show Steps p.tables e below (T7.setTop (mkF m 44 #[.val (.int p1), .val (.int p2), .val (.int (m0_4_0 p1)), .val (.int ((499 : Int32) + ((p2 &&& (65535 : Int32)) % (59503 : Int32)))), .unset, .unset] [])) _
      refine XS.iconst X7.here hx rfl (hb hby at_44) ?_
      exact k
  obtain ⟨_, _, ⟨T11, L11, k11, n11⟩, -, X11, ⟨Lc11, hQ11, l11, y11, z11⟩, st11⟩ := Jvm.LawKit.callS X7 hx (y := (⟨"com/example/parlour/parlour/typing/Practice", "allowsFall", "(I)Z"⟩ : MethodName)) hown (mvT hZ (hw _ (List.mem_of_getElem? (i := 0) rfl))) (mvT hZ (hw _ (List.mem_of_getElem? (i := 1) rfl))) (mvT hZ (hw _ (List.mem_of_getElem? (i := 2) rfl))) (mvT hZ (hw _ (List.mem_of_getElem? (i := 3) rfl))) (by decide) (backOf (W := 0) (rm1 l Z a0 hw [] (500 : Int32) h0 n0 Z0) hZ (hw _ (List.mem_of_getElem? (i := 3) rfl)) (hw _ (List.mem_of_getElem? (i := 2) rfl)) (by decide) (by decide)) (g := (mkF m 50 #[.val (.int p1), .val (.int p2), .val (.int (m0_4_0 p1)), .val (.int ((499 : Int32) + ((p2 &&& (65535 : Int32)) % (59503 : Int32)))), .val (.int (m0_9_0 p2)), .unset] [(.int (500 : Int32))])) rfl (by rw [hml]; rfl) (argsL := [(.int (500 : Int32))]) (rest := []) (lenOf pd_0 rfl) rfl (by show 2 * 0 + _ ≤ _; exact Nat.le_of_eq rfl) (hb hby at_50) (fun _ _ => ⟨rfl, e7, (by decide : 0 + 0 ≤ _), (by decide : 0 + 0 ≤ _)⟩)
  dsimp only [Pt.U, Pt.locs, Pt.cells, Pt.slots] at X11 l11 y11 z11 st11 hQ11
  subst l11 y11 z11
  obtain ⟨rfl, N11q, e11⟩ := hQ11
  have N11 := Fr.app N7 N11q
  have pre12 : ∀ t, Steps p.tables e below (T11.setTop (mkF m 53 #[.val (.int p1), .val (.int p2), .val (.int (m0_4_0 p1)), .val (.int ((499 : Int32) + ((p2 &&& (65535 : Int32)) % (59503 : Int32)))), .val (.int (m0_9_0 p2)), .unset] [(.int (f1 (500 : Int32)))])) t → Steps p.tables e below (s₁.setTop (entryFrame m #[(.int p1), (.int p2)] maxLocals)) t := fun t k => pre9 t (by
    show Steps p.tables e below (T7.setTop (mkF m 45 #[.val (.int p1), .val (.int p2), .val (.int (m0_4_0 p1)), .val (.int ((499 : Int32) + ((p2 &&& (65535 : Int32)) % (59503 : Int32)))), .unset, .unset] [(.int (m0_9_0 p2))])) _
    refine XS.istore X7.here hx rfl (hb hby at_45) rfl (l' := #[.val (.int p1), .val (.int p2), .val (.int (m0_4_0 p1)), .val (.int ((499 : Int32) + ((p2 &&& (65535 : Int32)) % (59503 : Int32)))), .val (.int (m0_9_0 p2)), .unset]) rfl ?_
    show Steps p.tables e below (T7.setTop (mkF m 47 #[.val (.int p1), .val (.int p2), .val (.int (m0_4_0 p1)), .val (.int ((499 : Int32) + ((p2 &&& (65535 : Int32)) % (59503 : Int32)))), .val (.int (m0_9_0 p2)), .unset] [])) _
    refine XS.sipush X7.here hx rfl (hb hby at_47) ?_
    show Steps p.tables e below (T7.setTop (mkF m 50 #[.val (.int p1), .val (.int p2), .val (.int (m0_4_0 p1)), .val (.int ((499 : Int32) + ((p2 &&& (65535 : Int32)) % (59503 : Int32)))), .val (.int (m0_9_0 p2)), .unset] [(.int (500 : Int32))])) _
    refine st11 _ ?_
    exact k)
  obtain ⟨T13, locs13, X13, e13, N13, pre13⟩ : ∃ (T' : State) (locs' : List Loc), Stand p l e room_1 s m #[(.int p1), (.int p2)] below meth c T' locs' 0 0 ∧ T'.heap = h0 ∧ Fr n0 locs' ∧ ∀ t, Steps p.tables e below (T'.setTop (mkF m 86 #[.val (.int p1), .val (.int p2), .val (.int (m0_4_0 p1)), .val (.int ((499 : Int32) + ((p2 &&& (65535 : Int32)) % (59503 : Int32)))), .val (.int (m0_9_0 p2)), .unset] [(.int (m0_13_0))])) t → Steps p.tables e below (s₁.setTop (entryFrame m #[(.int p1), (.int p2)] maxLocals)) t := by
    by_cases hc14 : (f1 (500 : Int32)) = (0 : Int32)
    · exact ⟨_, _, X11, e11, N11, fun t k => pre12 t (by
        rw [show (m0_13_0) = (0 : Int32) from by first | (rw [m0_13_0, if_pos hc14]; done) | (simp only [m0_13_0, if_pos hc14]; done) | rfl] at k
        show Steps p.tables e below (T11.setTop (mkF m 53 #[.val (.int p1), .val (.int p2), .val (.int (m0_4_0 p1)), .val (.int ((499 : Int32) + ((p2 &&& (65535 : Int32)) % (59503 : Int32)))), .val (.int (m0_9_0 p2)), .unset] [(.int (f1 (500 : Int32)))])) _
        refine XS.ifYes X11.here hx rfl (pc0 := 53) (pc' := 85) rfl (hb hby at_53) rfl ((if0 _ _).trans (teq hc14).1) (by decide) (by decide) ?_
        show Steps p.tables e below (T11.setTop (mkF m 85 #[.val (.int p1), .val (.int p2), .val (.int (m0_4_0 p1)), .val (.int ((499 : Int32) + ((p2 &&& (65535 : Int32)) % (59503 : Int32)))), .val (.int (m0_9_0 p2)), .unset] [])) _
        refine XS.iconst X11.here hx rfl (hb hby at_85) ?_
        exact k)⟩
    · obtain ⟨_, _, ⟨T15, L15, k15, n15⟩, -, X15, ⟨Lc15, hQ15, l15, y15, z15⟩, st15⟩ := Jvm.LawKit.callS X11 hx (y := (⟨"com/example/parlour/parlour/typing/Practice", "allowsFall", "(I)Z"⟩ : MethodName)) hown (mvT hZ (hw _ (List.mem_of_getElem? (i := 0) rfl))) (mvT hZ (hw _ (List.mem_of_getElem? (i := 1) rfl))) (mvT hZ (hw _ (List.mem_of_getElem? (i := 2) rfl))) (mvT hZ (hw _ (List.mem_of_getElem? (i := 3) rfl))) (by decide) (backOf (W := 0) (rm1 l Z a0 hw [] (60000 : Int32) h0 n0 Z0) hZ (hw _ (List.mem_of_getElem? (i := 3) rfl)) (hw _ (List.mem_of_getElem? (i := 2) rfl)) (by decide) (by decide)) (g := (mkF m 58 #[.val (.int p1), .val (.int p2), .val (.int (m0_4_0 p1)), .val (.int ((499 : Int32) + ((p2 &&& (65535 : Int32)) % (59503 : Int32)))), .val (.int (m0_9_0 p2)), .unset] [(.int (60000 : Int32))])) rfl (by rw [hml]; rfl) (argsL := [(.int (60000 : Int32))]) (rest := []) (lenOf pd_0 rfl) rfl (by show 2 * 0 + _ ≤ _; exact Nat.le_of_eq rfl) (hb hby at_58) (fun _ _ => ⟨rfl, e11, (by decide : 0 + 0 ≤ _), (by decide : 0 + 0 ≤ _)⟩)
      dsimp only [Pt.U, Pt.locs, Pt.cells, Pt.slots] at X15 l15 y15 z15 st15 hQ15
      subst l15 y15 z15
      obtain ⟨rfl, N15q, e15⟩ := hQ15
      have N15 := Fr.app N11 N15q
      have pre16 : ∀ t, Steps p.tables e below (T15.setTop (mkF m 61 #[.val (.int p1), .val (.int p2), .val (.int (m0_4_0 p1)), .val (.int ((499 : Int32) + ((p2 &&& (65535 : Int32)) % (59503 : Int32)))), .val (.int (m0_9_0 p2)), .unset] [(.int (f1 (60000 : Int32)))])) t → Steps p.tables e below (s₁.setTop (entryFrame m #[(.int p1), (.int p2)] maxLocals)) t := fun t k => pre12 t (by
        show Steps p.tables e below (T11.setTop (mkF m 53 #[.val (.int p1), .val (.int p2), .val (.int (m0_4_0 p1)), .val (.int ((499 : Int32) + ((p2 &&& (65535 : Int32)) % (59503 : Int32)))), .val (.int (m0_9_0 p2)), .unset] [(.int (f1 (500 : Int32)))])) _
        refine XS.ifNo X11.here hx rfl (hb hby at_53) rfl ((if0 _ _).trans (feq hc14).1) ?_
        show Steps p.tables e below (T11.setTop (mkF m 56 #[.val (.int p1), .val (.int p2), .val (.int (m0_4_0 p1)), .val (.int ((499 : Int32) + ((p2 &&& (65535 : Int32)) % (59503 : Int32)))), .val (.int (m0_9_0 p2)), .unset] [])) _
        refine X11.ldcInt hx hown (mvT hZ (hw _ (List.mem_of_getElem? (i := 13) rfl))) (g := (mkF m 56 #[.val (.int p1), .val (.int p2), .val (.int (m0_4_0 p1)), .val (.int ((499 : Int32) + ((p2 &&& (65535 : Int32)) % (59503 : Int32)))), .val (.int (m0_9_0 p2)), .unset] [])) rfl (hb hby at_56) _ ?_
        show Steps p.tables e below (T11.setTop (mkF m 58 #[.val (.int p1), .val (.int p2), .val (.int (m0_4_0 p1)), .val (.int ((499 : Int32) + ((p2 &&& (65535 : Int32)) % (59503 : Int32)))), .val (.int (m0_9_0 p2)), .unset] [(.int (60000 : Int32))])) _
        refine st15 _ ?_
        exact k)
      by_cases hc17 : (f1 (60000 : Int32)) = (0 : Int32)
      · exact ⟨_, _, X15, e15, N15, fun t k => pre16 t (by
          rw [show (m0_13_0) = (0 : Int32) from by first | (rw [m0_13_0, if_neg hc14, if_pos hc17]; done) | (simp only [m0_13_0, if_neg hc14, if_pos hc17]; done) | rfl] at k
          show Steps p.tables e below (T15.setTop (mkF m 61 #[.val (.int p1), .val (.int p2), .val (.int (m0_4_0 p1)), .val (.int ((499 : Int32) + ((p2 &&& (65535 : Int32)) % (59503 : Int32)))), .val (.int (m0_9_0 p2)), .unset] [(.int (f1 (60000 : Int32)))])) _
          refine XS.ifYes X15.here hx rfl (pc0 := 61) (pc' := 85) rfl (hb hby at_61) rfl ((if0 _ _).trans (teq hc17).1) (by decide) (by decide) ?_
          show Steps p.tables e below (T15.setTop (mkF m 85 #[.val (.int p1), .val (.int p2), .val (.int (m0_4_0 p1)), .val (.int ((499 : Int32) + ((p2 &&& (65535 : Int32)) % (59503 : Int32)))), .val (.int (m0_9_0 p2)), .unset] [])) _
          refine XS.iconst X15.here hx rfl (hb hby at_85) ?_
          exact k)⟩
      · obtain ⟨_, _, ⟨T18, L18, k18, n18⟩, -, X18, ⟨Lc18, hQ18, l18, y18, z18⟩, st18⟩ := Jvm.LawKit.callS X15 hx (y := (⟨"com/example/parlour/parlour/typing/Practice", "allowsFall", "(I)Z"⟩ : MethodName)) hown (mvT hZ (hw _ (List.mem_of_getElem? (i := 0) rfl))) (mvT hZ (hw _ (List.mem_of_getElem? (i := 1) rfl))) (mvT hZ (hw _ (List.mem_of_getElem? (i := 2) rfl))) (mvT hZ (hw _ (List.mem_of_getElem? (i := 3) rfl))) (by decide) (backOf (W := 0) (rm1 l Z a0 hw [] (499 : Int32) h0 n0 Z0) hZ (hw _ (List.mem_of_getElem? (i := 3) rfl)) (hw _ (List.mem_of_getElem? (i := 2) rfl)) (by decide) (by decide)) (g := (mkF m 67 #[.val (.int p1), .val (.int p2), .val (.int (m0_4_0 p1)), .val (.int ((499 : Int32) + ((p2 &&& (65535 : Int32)) % (59503 : Int32)))), .val (.int (m0_9_0 p2)), .unset] [(.int (499 : Int32))])) rfl (by rw [hml]; rfl) (argsL := [(.int (499 : Int32))]) (rest := []) (lenOf pd_0 rfl) rfl (by show 2 * 0 + _ ≤ _; exact Nat.le_of_eq rfl) (hb hby at_67) (fun _ _ => ⟨rfl, e15, (by decide : 0 + 0 ≤ _), (by decide : 0 + 0 ≤ _)⟩)
        dsimp only [Pt.U, Pt.locs, Pt.cells, Pt.slots] at X18 l18 y18 z18 st18 hQ18
        subst l18 y18 z18
        obtain ⟨rfl, N18q, e18⟩ := hQ18
        have N18 := Fr.app N15 N18q
        have pre19 : ∀ t, Steps p.tables e below (T18.setTop (mkF m 70 #[.val (.int p1), .val (.int p2), .val (.int (m0_4_0 p1)), .val (.int ((499 : Int32) + ((p2 &&& (65535 : Int32)) % (59503 : Int32)))), .val (.int (m0_9_0 p2)), .unset] [(.int (f1 (499 : Int32)))])) t → Steps p.tables e below (s₁.setTop (entryFrame m #[(.int p1), (.int p2)] maxLocals)) t := fun t k => pre16 t (by
          show Steps p.tables e below (T15.setTop (mkF m 61 #[.val (.int p1), .val (.int p2), .val (.int (m0_4_0 p1)), .val (.int ((499 : Int32) + ((p2 &&& (65535 : Int32)) % (59503 : Int32)))), .val (.int (m0_9_0 p2)), .unset] [(.int (f1 (60000 : Int32)))])) _
          refine XS.ifNo X15.here hx rfl (hb hby at_61) rfl ((if0 _ _).trans (feq hc17).1) ?_
          show Steps p.tables e below (T15.setTop (mkF m 64 #[.val (.int p1), .val (.int p2), .val (.int (m0_4_0 p1)), .val (.int ((499 : Int32) + ((p2 &&& (65535 : Int32)) % (59503 : Int32)))), .val (.int (m0_9_0 p2)), .unset] [])) _
          refine XS.sipush X15.here hx rfl (hb hby at_64) ?_
          show Steps p.tables e below (T15.setTop (mkF m 67 #[.val (.int p1), .val (.int p2), .val (.int (m0_4_0 p1)), .val (.int ((499 : Int32) + ((p2 &&& (65535 : Int32)) % (59503 : Int32)))), .val (.int (m0_9_0 p2)), .unset] [(.int (499 : Int32))])) _
          refine st18 _ ?_
          exact k)
        by_cases hc20 : (f1 (499 : Int32)) = (0 : Int32)
        · obtain ⟨_, _, ⟨T21, L21, k21, n21⟩, -, X21, ⟨Lc21, hQ21, l21, y21, z21⟩, st21⟩ := Jvm.LawKit.callS X18 hx (y := (⟨"com/example/parlour/parlour/typing/Practice", "allowsFall", "(I)Z"⟩ : MethodName)) hown (mvT hZ (hw _ (List.mem_of_getElem? (i := 0) rfl))) (mvT hZ (hw _ (List.mem_of_getElem? (i := 1) rfl))) (mvT hZ (hw _ (List.mem_of_getElem? (i := 2) rfl))) (mvT hZ (hw _ (List.mem_of_getElem? (i := 3) rfl))) (by decide) (backOf (W := 0) (rm1 l Z a0 hw [] (60001 : Int32) h0 n0 Z0) hZ (hw _ (List.mem_of_getElem? (i := 3) rfl)) (hw _ (List.mem_of_getElem? (i := 2) rfl)) (by decide) (by decide)) (g := (mkF m 75 #[.val (.int p1), .val (.int p2), .val (.int (m0_4_0 p1)), .val (.int ((499 : Int32) + ((p2 &&& (65535 : Int32)) % (59503 : Int32)))), .val (.int (m0_9_0 p2)), .unset] [(.int (60001 : Int32))])) rfl (by rw [hml]; rfl) (argsL := [(.int (60001 : Int32))]) (rest := []) (lenOf pd_0 rfl) rfl (by show 2 * 0 + _ ≤ _; exact Nat.le_of_eq rfl) (hb hby at_75) (fun _ _ => ⟨rfl, e18, (by decide : 0 + 0 ≤ _), (by decide : 0 + 0 ≤ _)⟩)
          dsimp only [Pt.U, Pt.locs, Pt.cells, Pt.slots] at X21 l21 y21 z21 st21 hQ21
          subst l21 y21 z21
          obtain ⟨rfl, N21q, e21⟩ := hQ21
          have N21 := Fr.app N18 N21q
          have pre22 : ∀ t, Steps p.tables e below (T21.setTop (mkF m 78 #[.val (.int p1), .val (.int p2), .val (.int (m0_4_0 p1)), .val (.int ((499 : Int32) + ((p2 &&& (65535 : Int32)) % (59503 : Int32)))), .val (.int (m0_9_0 p2)), .unset] [(.int (f1 (60001 : Int32)))])) t → Steps p.tables e below (s₁.setTop (entryFrame m #[(.int p1), (.int p2)] maxLocals)) t := fun t k => pre19 t (by
            show Steps p.tables e below (T18.setTop (mkF m 70 #[.val (.int p1), .val (.int p2), .val (.int (m0_4_0 p1)), .val (.int ((499 : Int32) + ((p2 &&& (65535 : Int32)) % (59503 : Int32)))), .val (.int (m0_9_0 p2)), .unset] [(.int (f1 (499 : Int32)))])) _
            refine XS.ifNo X18.here hx rfl (hb hby at_70) rfl ((if0 _ _).trans (teq hc20).2) ?_
            show Steps p.tables e below (T18.setTop (mkF m 73 #[.val (.int p1), .val (.int p2), .val (.int (m0_4_0 p1)), .val (.int ((499 : Int32) + ((p2 &&& (65535 : Int32)) % (59503 : Int32)))), .val (.int (m0_9_0 p2)), .unset] [])) _
            refine X18.ldcInt hx hown (mvT hZ (hw _ (List.mem_of_getElem? (i := 14) rfl))) (g := (mkF m 73 #[.val (.int p1), .val (.int p2), .val (.int (m0_4_0 p1)), .val (.int ((499 : Int32) + ((p2 &&& (65535 : Int32)) % (59503 : Int32)))), .val (.int (m0_9_0 p2)), .unset] [])) rfl (hb hby at_73) _ ?_
            show Steps p.tables e below (T18.setTop (mkF m 75 #[.val (.int p1), .val (.int p2), .val (.int (m0_4_0 p1)), .val (.int ((499 : Int32) + ((p2 &&& (65535 : Int32)) % (59503 : Int32)))), .val (.int (m0_9_0 p2)), .unset] [(.int (60001 : Int32))])) _
            refine st21 _ ?_
            exact k)
          by_cases hc23 : (f1 (60001 : Int32)) = (0 : Int32)
          · exact ⟨_, _, X21, e21, N21, fun t k => pre22 t (by
              rw [show (m0_13_0) = (1 : Int32) from by first | (rw [m0_13_0, if_neg hc14, if_neg hc17, if_pos hc20, if_pos hc23]; done) | (simp only [m0_13_0, if_neg hc14, if_neg hc17, if_pos hc20, if_pos hc23]; done) | rfl] at k
              show Steps p.tables e below (T21.setTop (mkF m 78 #[.val (.int p1), .val (.int p2), .val (.int (m0_4_0 p1)), .val (.int ((499 : Int32) + ((p2 &&& (65535 : Int32)) % (59503 : Int32)))), .val (.int (m0_9_0 p2)), .unset] [(.int (f1 (60001 : Int32)))])) _
              refine XS.ifNo X21.here hx rfl (hb hby at_78) rfl ((if0 _ _).trans (teq hc23).2) ?_
              show Steps p.tables e below (T21.setTop (mkF m 81 #[.val (.int p1), .val (.int p2), .val (.int (m0_4_0 p1)), .val (.int ((499 : Int32) + ((p2 &&& (65535 : Int32)) % (59503 : Int32)))), .val (.int (m0_9_0 p2)), .unset] [])) _
              refine XS.iconst X21.here hx rfl (hb hby at_81) ?_
              show Steps p.tables e below (T21.setTop (mkF m 82 #[.val (.int p1), .val (.int p2), .val (.int (m0_4_0 p1)), .val (.int ((499 : Int32) + ((p2 &&& (65535 : Int32)) % (59503 : Int32)))), .val (.int (m0_9_0 p2)), .unset] [(.int (1 : Int32))])) _
              refine XS.goto X21.here hx rfl (pc0 := 82) (pc' := 86) rfl (hb hby at_82) (by decide) (by decide) ?_
              exact k)⟩
          · exact ⟨_, _, X21, e21, N21, fun t k => pre22 t (by
              rw [show (m0_13_0) = (0 : Int32) from by first | (rw [m0_13_0, if_neg hc14, if_neg hc17, if_pos hc20, if_neg hc23]; done) | (simp only [m0_13_0, if_neg hc14, if_neg hc17, if_pos hc20, if_neg hc23]; done) | rfl] at k
              show Steps p.tables e below (T21.setTop (mkF m 78 #[.val (.int p1), .val (.int p2), .val (.int (m0_4_0 p1)), .val (.int ((499 : Int32) + ((p2 &&& (65535 : Int32)) % (59503 : Int32)))), .val (.int (m0_9_0 p2)), .unset] [(.int (f1 (60001 : Int32)))])) _
              refine XS.ifYes X21.here hx rfl (pc0 := 78) (pc' := 85) rfl (hb hby at_78) rfl ((if0 _ _).trans (feq hc23).2) (by decide) (by decide) ?_
              show Steps p.tables e below (T21.setTop (mkF m 85 #[.val (.int p1), .val (.int p2), .val (.int (m0_4_0 p1)), .val (.int ((499 : Int32) + ((p2 &&& (65535 : Int32)) % (59503 : Int32)))), .val (.int (m0_9_0 p2)), .unset] [])) _
              refine XS.iconst X21.here hx rfl (hb hby at_85) ?_
              exact k)⟩
        · exact ⟨_, _, X18, e18, N18, fun t k => pre19 t (by
            rw [show (m0_13_0) = (0 : Int32) from by first | (rw [m0_13_0, if_neg hc14, if_neg hc17, if_neg hc20]; done) | (simp only [m0_13_0, if_neg hc14, if_neg hc17, if_neg hc20]; done) | rfl] at k
            show Steps p.tables e below (T18.setTop (mkF m 70 #[.val (.int p1), .val (.int p2), .val (.int (m0_4_0 p1)), .val (.int ((499 : Int32) + ((p2 &&& (65535 : Int32)) % (59503 : Int32)))), .val (.int (m0_9_0 p2)), .unset] [(.int (f1 (499 : Int32)))])) _
            refine XS.ifYes X18.here hx rfl (pc0 := 70) (pc' := 85) rfl (hb hby at_70) rfl ((if0 _ _).trans (feq hc20).2) (by decide) (by decide) ?_
            show Steps p.tables e below (T18.setTop (mkF m 85 #[.val (.int p1), .val (.int p2), .val (.int (m0_4_0 p1)), .val (.int ((499 : Int32) + ((p2 &&& (65535 : Int32)) % (59503 : Int32)))), .val (.int (m0_9_0 p2)), .unset] [])) _
            refine XS.iconst X18.here hx rfl (hb hby at_85) ?_
            exact k)⟩
  have pre24 : ∀ t, Steps p.tables e below (T13.setTop (mkF m 89 #[.val (.int p1), .val (.int p2), .val (.int (m0_4_0 p1)), .val (.int ((499 : Int32) + ((p2 &&& (65535 : Int32)) % (59503 : Int32)))), .val (.int (m0_9_0 p2)), .val (.int (m0_13_0))] [(.int (m0_4_0 p1))])) t → Steps p.tables e below (s₁.setTop (entryFrame m #[(.int p1), (.int p2)] maxLocals)) t := fun t k => pre13 t (by
    show Steps p.tables e below (T13.setTop (mkF m 86 #[.val (.int p1), .val (.int p2), .val (.int (m0_4_0 p1)), .val (.int ((499 : Int32) + ((p2 &&& (65535 : Int32)) % (59503 : Int32)))), .val (.int (m0_9_0 p2)), .unset] [(.int (m0_13_0))])) _
    refine XS.istore X13.here hx rfl (hb hby at_86) rfl (l' := #[.val (.int p1), .val (.int p2), .val (.int (m0_4_0 p1)), .val (.int ((499 : Int32) + ((p2 &&& (65535 : Int32)) % (59503 : Int32)))), .val (.int (m0_9_0 p2)), .val (.int (m0_13_0))]) rfl ?_
    show Steps p.tables e below (T13.setTop (mkF m 88 #[.val (.int p1), .val (.int p2), .val (.int (m0_4_0 p1)), .val (.int ((499 : Int32) + ((p2 &&& (65535 : Int32)) % (59503 : Int32)))), .val (.int (m0_9_0 p2)), .val (.int (m0_13_0))] [])) _
    refine XS.iloadN X13.here hx rfl (hb hby at_88) rfl ?_
    exact k)
  by_cases hc25 : (m0_4_0 p1) = (0 : Int32)
  · obtain ⟨fs, hr, hrun, hended, hW, hsame⟩ := X13.leave (v := some (.int (0 : Int32))) (fun h => by rw [Bd.returns] at h; cases h)
    refine ⟨_, _, pre24 _ ?_, hrun, hended, _, _, rfl, ?_, ⟨_, rfl⟩, hW, hsame.mono (by decide) (by decide)⟩
    · show Steps p.tables e below (T13.setTop (mkF m 89 #[.val (.int p1), .val (.int p2), .val (.int (m0_4_0 p1)), .val (.int ((499 : Int32) + ((p2 &&& (65535 : Int32)) % (59503 : Int32)))), .val (.int (m0_9_0 p2)), .val (.int (m0_13_0))] [(.int (m0_4_0 p1))])) _
      refine XS.ifYes X13.here hx rfl (pc0 := 89) (pc' := 106) rfl (hb hby at_89) rfl ((if0 _ _).trans (teq hc25).1) (by decide) (by decide) ?_
      show Steps p.tables e below (T13.setTop (mkF m 106 #[.val (.int p1), .val (.int p2), .val (.int (m0_4_0 p1)), .val (.int ((499 : Int32) + ((p2 &&& (65535 : Int32)) % (59503 : Int32)))), .val (.int (m0_9_0 p2)), .val (.int (m0_13_0))] [])) _
      refine XS.iconst X13.here hx rfl (hb hby at_106) ?_
      show Steps p.tables e below (T13.setTop (mkF m 107 #[.val (.int p1), .val (.int p2), .val (.int (m0_4_0 p1)), .val (.int ((499 : Int32) + ((p2 &&& (65535 : Int32)) % (59503 : Int32)))), .val (.int (m0_9_0 p2)), .val (.int (m0_13_0))] [(.int (0 : Int32))])) _
      exact retN X13 hx (t := .boolean) Bd.returns (by simp) (hb hby at_107) hr
    · show Q0 Z p1 p2 h0 n0 _ T13.heap _
      rw [e13]
      exact ⟨by rw [show (f0 p1 p2) = (0 : Int32) from by first | (rw [f0, if_pos hc25]; done) | (simp only [f0, if_pos hc25]; done) | rfl], N13⟩
  · have pre27 : ∀ t, Steps p.tables e below (T13.setTop (mkF m 94 #[.val (.int p1), .val (.int p2), .val (.int (m0_4_0 p1)), .val (.int ((499 : Int32) + ((p2 &&& (65535 : Int32)) % (59503 : Int32)))), .val (.int (m0_9_0 p2)), .val (.int (m0_13_0))] [(.int (m0_9_0 p2))])) t → Steps p.tables e below (s₁.setTop (entryFrame m #[(.int p1), (.int p2)] maxLocals)) t := fun t k => pre24 t (by
      show Steps p.tables e below (T13.setTop (mkF m 89 #[.val (.int p1), .val (.int p2), .val (.int (m0_4_0 p1)), .val (.int ((499 : Int32) + ((p2 &&& (65535 : Int32)) % (59503 : Int32)))), .val (.int (m0_9_0 p2)), .val (.int (m0_13_0))] [(.int (m0_4_0 p1))])) _
      refine XS.ifNo X13.here hx rfl (hb hby at_89) rfl ((if0 _ _).trans (feq hc25).1) ?_
      show Steps p.tables e below (T13.setTop (mkF m 92 #[.val (.int p1), .val (.int p2), .val (.int (m0_4_0 p1)), .val (.int ((499 : Int32) + ((p2 &&& (65535 : Int32)) % (59503 : Int32)))), .val (.int (m0_9_0 p2)), .val (.int (m0_13_0))] [])) _
      refine XS.iload X13.here hx rfl (hb hby at_92) rfl ?_
      exact k)
    by_cases hc28 : (m0_9_0 p2) = (0 : Int32)
    · obtain ⟨fs, hr, hrun, hended, hW, hsame⟩ := X13.leave (v := some (.int (0 : Int32))) (fun h => by rw [Bd.returns] at h; cases h)
      refine ⟨_, _, pre27 _ ?_, hrun, hended, _, _, rfl, ?_, ⟨_, rfl⟩, hW, hsame.mono (by decide) (by decide)⟩
      · show Steps p.tables e below (T13.setTop (mkF m 94 #[.val (.int p1), .val (.int p2), .val (.int (m0_4_0 p1)), .val (.int ((499 : Int32) + ((p2 &&& (65535 : Int32)) % (59503 : Int32)))), .val (.int (m0_9_0 p2)), .val (.int (m0_13_0))] [(.int (m0_9_0 p2))])) _
        refine XS.ifYes X13.here hx rfl (pc0 := 94) (pc' := 106) rfl (hb hby at_94) rfl ((if0 _ _).trans (teq hc28).1) (by decide) (by decide) ?_
        show Steps p.tables e below (T13.setTop (mkF m 106 #[.val (.int p1), .val (.int p2), .val (.int (m0_4_0 p1)), .val (.int ((499 : Int32) + ((p2 &&& (65535 : Int32)) % (59503 : Int32)))), .val (.int (m0_9_0 p2)), .val (.int (m0_13_0))] [])) _
        refine XS.iconst X13.here hx rfl (hb hby at_106) ?_
        show Steps p.tables e below (T13.setTop (mkF m 107 #[.val (.int p1), .val (.int p2), .val (.int (m0_4_0 p1)), .val (.int ((499 : Int32) + ((p2 &&& (65535 : Int32)) % (59503 : Int32)))), .val (.int (m0_9_0 p2)), .val (.int (m0_13_0))] [(.int (0 : Int32))])) _
        exact retN X13 hx (t := .boolean) Bd.returns (by simp) (hb hby at_107) hr
      · show Q0 Z p1 p2 h0 n0 _ T13.heap _
        rw [e13]
        exact ⟨by rw [show (f0 p1 p2) = (0 : Int32) from by first | (rw [f0, if_neg hc25, if_pos hc28]; done) | (simp only [f0, if_neg hc25, if_pos hc28]; done) | rfl], N13⟩
    · have pre30 : ∀ t, Steps p.tables e below (T13.setTop (mkF m 99 #[.val (.int p1), .val (.int p2), .val (.int (m0_4_0 p1)), .val (.int ((499 : Int32) + ((p2 &&& (65535 : Int32)) % (59503 : Int32)))), .val (.int (m0_9_0 p2)), .val (.int (m0_13_0))] [(.int (m0_13_0))])) t → Steps p.tables e below (s₁.setTop (entryFrame m #[(.int p1), (.int p2)] maxLocals)) t := fun t k => pre27 t (by
        show Steps p.tables e below (T13.setTop (mkF m 94 #[.val (.int p1), .val (.int p2), .val (.int (m0_4_0 p1)), .val (.int ((499 : Int32) + ((p2 &&& (65535 : Int32)) % (59503 : Int32)))), .val (.int (m0_9_0 p2)), .val (.int (m0_13_0))] [(.int (m0_9_0 p2))])) _
        refine XS.ifNo X13.here hx rfl (hb hby at_94) rfl ((if0 _ _).trans (feq hc28).1) ?_
        show Steps p.tables e below (T13.setTop (mkF m 97 #[.val (.int p1), .val (.int p2), .val (.int (m0_4_0 p1)), .val (.int ((499 : Int32) + ((p2 &&& (65535 : Int32)) % (59503 : Int32)))), .val (.int (m0_9_0 p2)), .val (.int (m0_13_0))] [])) _
        refine XS.iload X13.here hx rfl (hb hby at_97) rfl ?_
        exact k)
      by_cases hc31 : (m0_13_0) = (0 : Int32)
      · obtain ⟨fs, hr, hrun, hended, hW, hsame⟩ := X13.leave (v := some (.int (0 : Int32))) (fun h => by rw [Bd.returns] at h; cases h)
        refine ⟨_, _, pre30 _ ?_, hrun, hended, _, _, rfl, ?_, ⟨_, rfl⟩, hW, hsame.mono (by decide) (by decide)⟩
        · show Steps p.tables e below (T13.setTop (mkF m 99 #[.val (.int p1), .val (.int p2), .val (.int (m0_4_0 p1)), .val (.int ((499 : Int32) + ((p2 &&& (65535 : Int32)) % (59503 : Int32)))), .val (.int (m0_9_0 p2)), .val (.int (m0_13_0))] [(.int (m0_13_0))])) _
          refine XS.ifYes X13.here hx rfl (pc0 := 99) (pc' := 106) rfl (hb hby at_99) rfl ((if0 _ _).trans (teq hc31).1) (by decide) (by decide) ?_
          show Steps p.tables e below (T13.setTop (mkF m 106 #[.val (.int p1), .val (.int p2), .val (.int (m0_4_0 p1)), .val (.int ((499 : Int32) + ((p2 &&& (65535 : Int32)) % (59503 : Int32)))), .val (.int (m0_9_0 p2)), .val (.int (m0_13_0))] [])) _
          refine XS.iconst X13.here hx rfl (hb hby at_106) ?_
          show Steps p.tables e below (T13.setTop (mkF m 107 #[.val (.int p1), .val (.int p2), .val (.int (m0_4_0 p1)), .val (.int ((499 : Int32) + ((p2 &&& (65535 : Int32)) % (59503 : Int32)))), .val (.int (m0_9_0 p2)), .val (.int (m0_13_0))] [(.int (0 : Int32))])) _
          exact retN X13 hx (t := .boolean) Bd.returns (by simp) (hb hby at_107) hr
        · show Q0 Z p1 p2 h0 n0 _ T13.heap _
          rw [e13]
          exact ⟨by rw [show (f0 p1 p2) = (0 : Int32) from by first | (rw [f0, if_neg hc25, if_neg hc28, if_pos hc31]; done) | (simp only [f0, if_neg hc25, if_neg hc28, if_pos hc31]; done) | rfl], N13⟩
      · obtain ⟨fs, hr, hrun, hended, hW, hsame⟩ := X13.leave (v := some (.int (1 : Int32))) (fun h => by rw [Bd.returns] at h; cases h)
        refine ⟨_, _, pre30 _ ?_, hrun, hended, _, _, rfl, ?_, ⟨_, rfl⟩, hW, hsame.mono (by decide) (by decide)⟩
        · show Steps p.tables e below (T13.setTop (mkF m 99 #[.val (.int p1), .val (.int p2), .val (.int (m0_4_0 p1)), .val (.int ((499 : Int32) + ((p2 &&& (65535 : Int32)) % (59503 : Int32)))), .val (.int (m0_9_0 p2)), .val (.int (m0_13_0))] [(.int (m0_13_0))])) _
          refine XS.ifNo X13.here hx rfl (hb hby at_99) rfl ((if0 _ _).trans (feq hc31).1) ?_
          show Steps p.tables e below (T13.setTop (mkF m 102 #[.val (.int p1), .val (.int p2), .val (.int (m0_4_0 p1)), .val (.int ((499 : Int32) + ((p2 &&& (65535 : Int32)) % (59503 : Int32)))), .val (.int (m0_9_0 p2)), .val (.int (m0_13_0))] [])) _
          refine XS.iconst X13.here hx rfl (hb hby at_102) ?_
          show Steps p.tables e below (T13.setTop (mkF m 103 #[.val (.int p1), .val (.int p2), .val (.int (m0_4_0 p1)), .val (.int ((499 : Int32) + ((p2 &&& (65535 : Int32)) % (59503 : Int32)))), .val (.int (m0_9_0 p2)), .val (.int (m0_13_0))] [(.int (1 : Int32))])) _
          refine XS.goto X13.here hx rfl (pc0 := 103) (pc' := 107) rfl (hb hby at_103) (by decide) (by decide) ?_
          show Steps p.tables e below (T13.setTop (mkF m 107 #[.val (.int p1), .val (.int p2), .val (.int (m0_4_0 p1)), .val (.int ((499 : Int32) + ((p2 &&& (65535 : Int32)) % (59503 : Int32)))), .val (.int (m0_9_0 p2)), .val (.int (m0_13_0))] [(.int (1 : Int32))])) _
          exact retN X13 hx (t := .boolean) Bd.returns (by simp) (hb hby at_107) hr
        · show Q0 Z p1 p2 h0 n0 _ T13.heap _
          rw [e13]
          exact ⟨by rw [show (f0 p1 p2) = (1 : Int32) from by first | (rw [f0, if_neg hc25, if_neg hc28, if_neg hc31]; done) | (simp only [f0, if_neg hc25, if_neg hc28, if_neg hc31]; done) | rfl], N13⟩

theorem own_eq (p : Int32) : f1 p = f2 p := by
  have a := p.toInt_lt; have b := p.le_toInt
  have e0 : (p.toInt64).toInt = p.toInt := Jvm.Kit.i64_of_i32 p
  have l5 : (500 : Int64).toInt = 500 := rfl
  have e1 : (p.toInt64 - 500).toInt = p.toInt - 500 := by
    rw [Jvm.Kit.i64_sub (by rw [e0, l5]; omega) (by rw [e0, l5]; omega), e0, l5]
  have c1 : p < 500 ↔ lcmpW (p.toInt64 - 500) 0 < 0 := by
    rw [own_lt, Int64.lt_iff_toInt_lt, Int32.lt_iff_toInt_lt, e1, show (0 : Int64).toInt = 0 from rfl, show (500 : Int32).toInt = 500 from rfl]; omega
  have c2 : (60000 : Int32) < p ↔ 0 < lcmpW (p.toInt64 - 500) 59500 := by
    rw [own_gt, Int64.lt_iff_toInt_lt, Int32.lt_iff_toInt_lt, e1, show (59500 : Int64).toInt = 59500 from rfl, show (60000 : Int32).toInt = 60000 from rfl]; omega
  simp only [f1, f2, c1, c2]
theorem own_m : m0_13_0 = 1 := by decide +kernel
theorem own_main (p1 p2 : Int32) : f0 p1 p2 = 1 := by
  have h1 : m0_4_0 p1 = 1 := by rw [m0_4_0, if_pos (own_eq _)]
  have h2 : m0_9_0 p2 = 1 := by rw [m0_9_0, if_pos (own_eq _)]
  rw [f0, h1, h2, own_m]; decide

set_option maxRecDepth 65536 in
set_option maxHeartbeats 40000000 in
theorem comes_1 {Post : Tables → Env → Array Value → State → Outcome → State → Prop} (hpost : ∀ tb e args s v u, (limb_1_1.after args s (.returned v) u = true ∧ limb_1_2.after args s (.returned v) u = true ∧ True) → FrameEnd s (.returned v) u (Jvm.fieldLocs frame_1_writes args s ++ Jvm.arrayLocs frame_1_arrays args s ++ Jvm.staticLocs frame_1_statics s) 0 0 → Post tb e args s (.returned v) u) :
    ArmFor flags0 classFile x code maxLocals ret World_1 tables_1 room_1 Calls_1 rest_1 Pre_1 Post := by
  intro l hfl _ _ p e ha hc hk s m args below hf hA hF happ hP
  obtain ⟨hcalls, hrest, hpre⟩ := hP
  obtain ⟨-, -, -, hnamed, -, -, -, hat⟩ := (Spec.applies_iff hf).mp happ
  obtain ⟨hg, hn⟩ := and_e (Cond.before_iff.mp (show (Jvm.Cond.and given_1 narrow_1).before args s = true from hpre))
  obtain ⟨g1, g2⟩ := and_e hg
  obtain ⟨g3, g4⟩ := and_e g2
  obtain ⟨w0, w1, rfl⟩ : ∃ w0 w1 : Value, args = #[w0, w1] := by
    have hs : args.size = 2 := by simpa [Cond.value, given_1] using g1
    obtain ⟨L⟩ := args
    match L, hs with
    | [w0, w1], _ => exact ⟨w0, w1, rfl⟩
  have hw := fun d (hd : d ∈ tables_1) => atoms_spec (ws := Jvm.Cond.code x code maxLocals ret :: tables_1) hat d (List.mem_cons_of_mem _ hd)
  have hfit : Fit s := fun {y c} hc i hi => by
    obtain ⟨ha, rfl⟩ := Array.getElem?_eq_some_iff.mp hc
    have q := List.all_eq_true.mp ((Array.all_eq_true_iff_forall_mem.mp hF) _ (Array.getElem_mem ha)) i (List.mem_range.mpr hi)
    simpa [Array.getElem?_eq_getElem hi] using q
  obtain ⟨i0, ei0⟩ := is_v g3
  obtain rfl : w0 = (.int i0) := Option.some.inj ei0
  obtain ⟨i1, ei1⟩ := is_v g4
  obtain rfl : w1 = (.int i1) := Option.some.inj ei1
  obtain ⟨n, o, h1, h2, h3, _, L, rfl, ⟨rfl, N⟩, hq⟩ := rm0 l s _ hw tables_1 i0 i1 s.heap s.heap.size (Nat.le_refl _) p e ha hc hk s m _ below hf ((Spec.applies_iff_loose hf).mp happ).1 ⟨rfl, State.Warmed39.refl s, rfl⟩ trivial
  refine ⟨n, _, h1, h2, h3, hpost _ _ _ _ _ _ ⟨Cond.after_iff.mpr rfl, Cond.after_iff.mpr (eq_i res_at (Term.int_eval (1)) (congrArg Value.int (own_main i0 i1))), trivial⟩ ⟨hq.1, hq.2.1, (hq.2.2.sift fun y hy => Or.inr (N y hy)).mono (by decide) (by decide)⟩⟩
theorem main_1_1 : Claimed_1_1 := comes_1 fun _ _ _ _ _ _ h hF => ⟨h.1, hF⟩
theorem main_1_2 : Claimed_1_2 := comes_1 fun _ _ _ _ _ _ h hF => ⟨h.2.1, hF⟩
end Jvm.Pilot.@@N@@
namespace Jvm.Pilot.@@N@@
open Jvm Jvm.ClassFile Sem Op Lib Jvm.Free Jvm.Stand Jvm.Pilot.@@N@@.Jvm.D
/-! MADE BY PROGRAM (witnessworld.py) out of the Statement's table words and the real class files: 9 classes; the members and pool entries that the words name. The judged class is class 1, her method 2. -/
namespace start1
open Jvm.ClassFile
def u (s : String) : CpInfo := .utf8 (stringToUtf16 s)
/-- a pool by its gaps: so many unusable entries, then the entry; so many at the end -/
def gap : Nat → List CpInfo → List CpInfo
  | 0, r => r
  | n + 1, r => .unusable :: gap n r
def poolList (es : List (Nat × CpInfo)) (last : Nat) : List CpInfo := es.foldr (fun e r => gap e.1 (e.2 :: r)) (gap last [])
def pool (es : List (Nat × CpInfo)) (last : Nat) : Array CpInfo := ⟨poolList es last⟩
def fileOf (pool : Array CpInfo) (this : Nat) (attrs : Array Attribute := #[]) (ms : Array MethodInfo := #[]) (fl : Nat := 33) (sup : Nat := 0) (ifs : Array Nat := #[]) (fds : Array FieldInfo := #[]) : ClassFile where
  minorVersion := 0
  majorVersion := 65
  constantPool := pool
  accessFlags := fl
  thisClass := this
  superClass := sup
  interfaces := ifs
  fields := fds
  methods := ms
  attributes := attrs
def plain (name : String) (sup : Option ClassId) : Class where
  name := name
  kind := .ordinary
  loader := none
  accessFlags := 33
  super := sup
  interfaces := #[]
  cf := none
  fields := #[]
  methods := #[]
  instanceTypes := #[]
  staticTypes := #[]
  resolved := #[]
  callSites := []
  init := .initialized
  statics := none
  mirror := none

def pool0 : Array CpInfo := pool [(5, u "<init>"), (0, u "()V"), (1, .class_ 10), (1, u "java/lang/Object")] 113

def k0m0 : Method := { name := "<init>", desc := "()V", sig := { parameters := [], returnType := none }, accessFlags := 1, code := none }
/-- java/lang/Object -/
def k0 : Class := { plain "java/lang/Object" none with
  accessFlags := 33
  interfaces := #[]
  cf := some (fileOf pool0 8 #[] #[{ accessFlags := 1, nameIndex := 5, descriptorIndex := 6, attributes := #[] }] 33 0 #[] #[])
  fields := #[]
  methods := #[k0m0]
  instanceTypes := #[]
  staticTypes := #[]
  resolved := Array.replicate 124 none
  statics := none }

def pool1 : Array CpInfo := pool [(2, .class_ 4), (1, u "java/lang/Object"), (0, u "<init>"), (0, u "()V"), (0, .long 500), (1, .long 59500), (1, .methodref 12 13), (0, .class_ 14), (0, .nameAndType 15 16), (0, u "com/example/parlour/parlour/typing/Practice"), (0, u "allowsFall"), (0, u "(I)Z"), (0, .methodref 18 19), (0, .class_ 20), (0, .nameAndType 21 16), (0, u "com/example/parlour/parlour/typing/PracticeAllowsFallPinLaw"), (0, u "expected"), (0, .integer 65535), (0, .integer 59503), (0, .integer 60000), (0, .integer 60001), (3, u "law"), (0, u "(II)Z")] 2

def k1m0 : Method := { name := "<init>", desc := "()V", sig := { parameters := [], returnType := none }, accessFlags := 1, code := none }
def k1c1 : Code := { maxStack := 4, maxLocals := 3, code := method_2_code, exceptionTable := #[], attributes := #[] }
def k1m1 : Method := { name := "expected", desc := "(I)Z", sig := { parameters := [.int], returnType := some .boolean }, accessFlags := 10, code := some k1c1 }
def k1c2 : Code := { maxStack := 3, maxLocals := 6, code := code, exceptionTable := #[], attributes := #[] }
def k1m2 : Method := { name := "law", desc := "(II)Z", sig := { parameters := [.int, .int], returnType := some .boolean }, accessFlags := 9, code := some k1c2 }
/-- com/example/parlour/parlour/typing/PracticeAllowsFallPinLaw -/
def k1 : Class := { plain "com/example/parlour/parlour/typing/PracticeAllowsFallPinLaw" (some 0) with
  accessFlags := 49
  interfaces := #[]
  cf := some (fileOf pool1 18 #[] #[{ accessFlags := 1, nameIndex := 5, descriptorIndex := 6, attributes := #[] }, { accessFlags := 10, nameIndex := 21, descriptorIndex := 16, attributes := #[] }, { accessFlags := 9, nameIndex := 29, descriptorIndex := 30, attributes := #[] }] 49 2 #[] #[])
  fields := #[]
  methods := #[k1m0, k1m1, k1m2]
  instanceTypes := #[]
  staticTypes := #[]
  resolved := Array.replicate 33 none
  statics := none }

def pool2 : Array CpInfo := pool [(2, .class_ 4), (1, u "java/lang/Object"), (6, .class_ 13), (1, u "com/example/parlour/parlour/typing/Practice"), (0, u "listeners"), (0, u "Ljava/util/List;"), (5, u "falling"), (0, u "Ljava/util/Set;"), (5, u "threads"), (0, u "Ljava/util/Map;"), (16, u "(I)Z"), (5, u "allowsFall"), (10, u "words"), (2, u "total"), (0, u "I"), (2, u "onScreen"), (2, u "fall"), (2, u "random"), (0, u "Ljava/util/Random;"), (0, .integer 60000), (6, u "closed"), (0, u "Z"), (5, u "running"), (17, u "started"), (41, u "caught"), (13, u "missed"), (97, u "MOST_WORDS"), (2, u "MOST_ON_SCREEN"), (1, u "SHORTEST_FALL"), (1, u "LONGEST_FALL")] 46

def k2c0 : Code := { maxStack := 2, maxLocals := 1, code := prog_52_method_4_code, exceptionTable := #[], attributes := #[] }
def k2m0 : Method := { name := "allowsFall", desc := "(I)Z", sig := { parameters := [.int], returnType := some .boolean }, accessFlags := 8, code := some k2c0 }
/-- com/example/parlour/parlour/typing/Practice -/
def k2 : Class := { plain "com/example/parlour/parlour/typing/Practice" (some 0) with
  accessFlags := 48
  interfaces := #[]
  cf := some (fileOf pool2 11 #[] #[{ accessFlags := 8, nameIndex := 52, descriptorIndex := 46, attributes := #[] }] 48 2 #[] #[{ accessFlags := 24, nameIndex := 264, descriptorIndex := 67, attributes := #[] }, { accessFlags := 24, nameIndex := 267, descriptorIndex := 67, attributes := #[] }, { accessFlags := 24, nameIndex := 269, descriptorIndex := 67, attributes := #[] }, { accessFlags := 24, nameIndex := 271, descriptorIndex := 67, attributes := #[] }, { accessFlags := 18, nameIndex := 63, descriptorIndex := 15, attributes := #[] }, { accessFlags := 18, nameIndex := 66, descriptorIndex := 67, attributes := #[] }, { accessFlags := 18, nameIndex := 70, descriptorIndex := 67, attributes := #[] }, { accessFlags := 18, nameIndex := 73, descriptorIndex := 67, attributes := #[] }, { accessFlags := 18, nameIndex := 76, descriptorIndex := 77, attributes := #[] }, { accessFlags := 18, nameIndex := 14, descriptorIndex := 15, attributes := #[] }, { accessFlags := 18, nameIndex := 21, descriptorIndex := 22, attributes := #[] }, { accessFlags := 18, nameIndex := 28, descriptorIndex := 29, attributes := #[] }, { accessFlags := 2, nameIndex := 110, descriptorIndex := 67, attributes := #[] }, { accessFlags := 2, nameIndex := 152, descriptorIndex := 67, attributes := #[] }, { accessFlags := 2, nameIndex := 166, descriptorIndex := 67, attributes := #[] }, { accessFlags := 2, nameIndex := 92, descriptorIndex := 86, attributes := #[] }, { accessFlags := 2, nameIndex := 85, descriptorIndex := 86, attributes := #[] }])
  fields := #[{ name := "MOST_WORDS", type := .int, accessFlags := 24, slot := 0, constantValue := 0 }, { name := "MOST_ON_SCREEN", type := .int, accessFlags := 24, slot := 1, constantValue := 0 }, { name := "SHORTEST_FALL", type := .int, accessFlags := 24, slot := 2, constantValue := 0 }, { name := "LONGEST_FALL", type := .int, accessFlags := 24, slot := 3, constantValue := 0 }, { name := "words", type := (.object "java/util/List"), accessFlags := 18, slot := 0, constantValue := 0 }, { name := "total", type := .int, accessFlags := 18, slot := 1, constantValue := 0 }, { name := "onScreen", type := .int, accessFlags := 18, slot := 2, constantValue := 0 }, { name := "fall", type := .int, accessFlags := 18, slot := 3, constantValue := 0 }, { name := "random", type := (.object "java/util/Random"), accessFlags := 18, slot := 4, constantValue := 0 }, { name := "listeners", type := (.object "java/util/List"), accessFlags := 18, slot := 5, constantValue := 0 }, { name := "falling", type := (.object "java/util/Set"), accessFlags := 18, slot := 6, constantValue := 0 }, { name := "threads", type := (.object "java/util/Map"), accessFlags := 18, slot := 7, constantValue := 0 }, { name := "started", type := .int, accessFlags := 2, slot := 8, constantValue := 0 }, { name := "caught", type := .int, accessFlags := 2, slot := 9, constantValue := 0 }, { name := "missed", type := .int, accessFlags := 2, slot := 10, constantValue := 0 }, { name := "running", type := .boolean, accessFlags := 2, slot := 11, constantValue := 0 }, { name := "closed", type := .boolean, accessFlags := 2, slot := 12, constantValue := 0 }]
  methods := #[k2m0]
  instanceTypes := #[(.object "java/util/List"), .int, .int, .int, (.object "java/util/Random"), (.object "java/util/List"), (.object "java/util/Set"), (.object "java/util/Map"), .int, .int, .int, .boolean, .boolean]
  staticTypes := #[.int, .int, .int, .int]
  resolved := Array.replicate 318 none
  statics := none }

def pool3 : Array CpInfo := pool [(1, u "java/lang/Cloneable"), (0, .class_ 1), (0, u "java/lang/Object"), (0, .class_ 3)] 3

/-- java/lang/Cloneable -/
def k3 : Class := { plain "java/lang/Cloneable" (some 0) with
  accessFlags := 1537
  interfaces := #[]
  cf := some (fileOf pool3 2 #[] #[] 1537 4 #[] #[])
  fields := #[]
  methods := #[]
  instanceTypes := #[]
  staticTypes := #[]
  resolved := Array.replicate 8 none
  statics := none }

def pool4 : Array CpInfo := pool [(1, u "java/io/Serializable"), (0, .class_ 1), (0, u "java/lang/Object"), (0, .class_ 3)] 3

/-- java/io/Serializable -/
def k4 : Class := { plain "java/io/Serializable" (some 0) with
  accessFlags := 1537
  interfaces := #[]
  cf := some (fileOf pool4 2 #[] #[] 1537 4 #[] #[])
  fields := #[]
  methods := #[]
  instanceTypes := #[]
  staticTypes := #[]
  resolved := Array.replicate 8 none
  statics := none }

/-- the primitive byte -/
def k5 : Class := { plain "byte" none with kind := .primitive 'B', accessFlags := 0x411 }
/-- [B -/
def k6 : Class := { plain "[B" (some 0) with kind := .array 5 .byte, interfaces := #[3, 4], accessFlags := 1041 }

/-- the primitive int -/
def k7 : Class := { plain "int" none with kind := .primitive 'I', accessFlags := 0x411 }
/-- [I -/
def k8 : Class := { plain "[I" (some 0) with kind := .array 7 .int, interfaces := #[3, 4], accessFlags := 1041 }

def heap : Heap := #[]
def classes : Array Class := #[k0, k1, k2, k3, k4, k5, k6, k7, k8]
def interned : List (Array UInt16 × Addr) := []
def slotsUsed : Nat := 0
def theMethod : MethodId := ⟨1, 2⟩
def args0 : Array Value := #[.int 5, .int 6]
def aboutOver (below : List Frame) : State where
  vm := { classes := classes, interned := interned.toArray }
  heap := heap
  slotsUsed := slotsUsed
  threads := #[{ frames := .invoking theMethod args0 :: below }]
def below0 : List Frame := [.native { method := ⟨0, 0⟩, args := #[] }]
def about1 : State := aboutOver below0
def p0 : Program := .bare "" "" ""
def e0 : Env := launch0.env 0 0 0
theorem w_frames : about1.frames = Frame.invoking theMethod args0 :: below0 := rfl
set_option maxRecDepth 65536 in
theorem w_args : argsFit about1.vm theMethod args0 = true := by decide +kernel
set_option maxRecDepth 65536 in
theorem w_heap : heapFits about1 = true := by decide +kernel
set_option maxRecDepth 65536 in
theorem w_runnable : about1.curStatus? = some .runnable := by decide +kernel
set_option maxRecDepth 65536 in
theorem w_alone : about1.alone = true := by decide +kernel
set_option maxRecDepth 65536 in
theorem w_named : about1.methodNamed? x = some theMethod := by decide +kernel
set_option maxRecDepth 65536 in
theorem w_hears : about1.hears theMethod below0 = true := by decide +kernel
set_option maxRecDepth 65536 in
theorem w_ripe : about1.ripe theMethod args0 below0 = true := by decide +kernel
theorem w_running : about1.status = .running := rfl
set_option maxRecDepth 65536 in
theorem w_room : about1.hasRoom e0.platform room_1 = true :=
  launch0.hasRoom_least _ room_1 (by decide +kernel) (by decide +kernel) (by decide +kernel) (by decide +kernel) (by decide +kernel) (by decide +kernel)
theorem allAtoms_all (ts : List Jvm.Cond) (a : Array Jvm.Value) (st : Jvm.State) : (allAtoms ts).before a st = ts.all (fun c => c.before a st) := by
  induction ts with
  | nil => rfl
  | cons c t ih =>
    show (Jvm.Cond.and c (allAtoms t)).before a st = _
    rw [Jvm.Cond.before_and, ih, List.all_cons]
def words1 : List Jvm.Cond := Jvm.Cond.code x code maxLocals ret :: tables_1
/-- a 'code' word, met by the world's own term for the bytes: nothing is compared byte by byte -/
theorem code_word {y : MethodName} {bytes : ByteArray} {mx : Nat} {rt : Option FieldType} {a : Array Value} {s : State} {m : MethodId} {meth : Method} {c : Code} (h1 : s.methodNamed? y = some m) (h2 : s.vm.method? m = some meth) (h3 : meth.code = some c) (h4 : c.code = bytes)
    (h5 : (c.maxLocals == mx && c.exceptionTable.isEmpty && decide (c.maxStack ≤ mostOperands) && decide (meth.sig.returnType = rt) && !meth.locks && decide (parseMethodDescriptor y.desc = some meth.sig)) = true) : (Jvm.Cond.code y bytes mx rt).before a s = true := by
  simp only [Bool.and_eq_true, beq_iff_eq, Bool.not_eq_true', decide_eq_true_eq] at h5
  obtain ⟨⟨⟨⟨⟨g1, g2⟩, g3⟩, g4⟩, g5⟩, g6⟩ := h5
  simp [Cond.before, Cond.holds, Cond.value, h1, h2, h3, h4, g1, g2, g3, g4, g5, g6]
def isCode : Jvm.Cond → Bool
  | .code _ _ _ _ => true
  | _ => false
theorem all_split {L : List Jvm.Cond} {P : Jvm.Cond → Bool} (h1 : L.all (fun c => isCode c || P c) = true) (h2 : ∀ c ∈ L.filter isCode, P c = true) : L.all P = true := by
  refine List.all_eq_true.mpr fun c hc => ?_
  have h := List.all_eq_true.mp h1 c hc
  rcases Bool.eq_false_or_eq_true (isCode c) with hi | hi
  · exact h2 c (List.mem_filter.mpr ⟨hc, hi⟩)
  · simpa [hi] using h
set_option maxRecDepth 65536 in
theorem w_c0 : (Jvm.Cond.code x code maxLocals ret).before args0 about1 = true := code_word (m := ⟨1, 2⟩) (meth := k1m2) (c := k1c2) (by decide +kernel) rfl rfl rfl (by decide +kernel)
set_option maxRecDepth 65536 in
theorem w_c1 : (Jvm.Cond.code ({ cls := "com/example/parlour/parlour/typing/Practice", name := "allowsFall", desc := "(I)Z" } : Jvm.MethodName) prog_52_method_4_code (1 : Nat) (Option.some Jvm.ClassFile.FieldType.boolean)).before args0 about1 = true := code_word (m := ⟨2, 0⟩) (meth := k2m0) (c := k2c0) (by decide +kernel) rfl rfl rfl (by decide +kernel)
set_option maxRecDepth 65536 in
theorem w_c2 : (Jvm.Cond.code ({ cls := "com/example/parlour/parlour/typing/PracticeAllowsFallPinLaw", name := "expected", desc := "(I)Z" } : Jvm.MethodName) method_2_code (3 : Nat) (Option.some Jvm.ClassFile.FieldType.boolean)).before args0 about1 = true := code_word (m := ⟨1, 1⟩) (meth := k1m1) (c := k1c1) (by decide +kernel) rfl rfl rfl (by decide +kernel)
def codes1 : List Jvm.Cond := [Jvm.Cond.code x code maxLocals ret, Jvm.Cond.code ({ cls := "com/example/parlour/parlour/typing/Practice", name := "allowsFall", desc := "(I)Z" } : Jvm.MethodName) prog_52_method_4_code (1 : Nat) (Option.some Jvm.ClassFile.FieldType.boolean), Jvm.Cond.code ({ cls := "com/example/parlour/parlour/typing/PracticeAllowsFallPinLaw", name := "expected", desc := "(I)Z" } : Jvm.MethodName) method_2_code (3 : Nat) (Option.some Jvm.ClassFile.FieldType.boolean)]
set_option maxRecDepth 65536 in
theorem codes_eq : words1.filter isCode = codes1 := rfl
theorem w_codes : ∀ c ∈ words1.filter isCode, c.before args0 about1 = true := by
  rw [codes_eq]
  intro c hc
  simp only [codes1, List.mem_cons, List.not_mem_nil, or_false] at hc
  rcases hc with rfl | rfl | rfl
  · exact w_c0
  · exact w_c1
  · exact w_c2
set_option maxRecDepth 65536 in
theorem w_t1 : words1.all (fun c => isCode c || c.before args0 about1) = true := by decide +kernel
theorem w_tables : (allAtoms (Jvm.Cond.code x code maxLocals ret :: tables_1)).before args0 about1 = true := by
  rw [allAtoms_all]
  show words1.all (fun c => c.before args0 about1) = true
  refine all_split ?_ w_codes
  rw [w_t1]
set_option maxRecDepth 65536 in
theorem w_case : (Jvm.Cond.and given_1 narrow_1).before args0 about1 = true := by decide +kernel
theorem w_applies : (headSpec (Jvm.Cond.code x code maxLocals ret :: tables_1) room_1).applies x e0.platform about1 = true :=
  (Spec.applies_iff w_frames).mpr ⟨w_running, w_runnable, w_alone, w_named, w_hears, w_ripe, w_room, w_tables⟩
theorem atStart : AtStart classFile x code maxLocals ret World_1 tables_1 room_1 Calls_1 rest_1 Pre_1 launch0 p0 e0 about1 theMethod args0 below0 :=
  ⟨lists_1, trivial, launch0.admits_env _ _ _, launch0.least_env, fairChoices_fair.cas, fairChoices_fair.clock, w_frames, w_args, w_heap, w_applies, trivial, trivial, w_case⟩
end start1
theorem witness_1 : WitnessClaimed_1 := ⟨start1.p0, start1.e0, start1.about1, start1.theMethod, start1.args0, start1.below0, start1.atStart⟩
end Jvm.Pilot.@@N@@

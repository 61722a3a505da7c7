import JvmDerived
import JvmDerived.Pilot.@@N@@Statement
import JvmDerived.Pilot.@@N@@Code
set_option linter.unusedVariables false
set_option linter.unusedSimpArgs false
@@BLOCK:NumsL.lean.txt@@
namespace Jvm.RoadKit
open Sem ClassFile Op Lib Jvm.Stand Jvm.Free Jvm.LawKit
section New
variable {p : Program} {l : Launch} {e : Env} {R : Room} {s : State} {m : MethodId} {args : Array Value} {below : List Frame} {meth : Method} {c : Code} {T : State} {locs : List Loc} {cells slots : Nat}
theorem retI (X : Stand p l e R s m args below meth c T locs cells slots) (hx : p.tables.exec = Jvm.exec) {pc : Nat} {Ls : Array Slot} {z : Int32} {rest : List Value} (hret : meth.sig.returnType = some .int) (hd : decode c.code pc = .ok (.ireturn, 1)) {fs : List Frame}
    (hl : ∀ (f : JFrame) (acts : List Action), f.method = m → f.locked = none → f.entered = [] → (doReturn e (T.setTop f) acts (some (.int z))).1 = T.setFrames fs) : Steps p.tables e below (T.setTop (mkF m pc Ls (.int z :: rest))) (T.setFrames fs) := by
  have hm' : T.vm.method? m = some meth := X.method'
  have hn : narrow .int (.int z) = .int z := rfl
  show Steps p.tables e below (T.setTop { method := m, pc := pc, locals := Ls, stack := _ :: rest, locked := none }) _
  jvm_step X.here [X.here.top, hx, hd, hm', hret, hn]
  first | (intro acts; rw [hl _ acts rfl rfl rfl]) | rw [hl _ _ rfl rfl rfl]
  exact Steps.refl _
end New
end Jvm.RoadKit
namespace Jvm.Pilot.@@N@@
open Jvm Jvm.ClassFile Sem Op Lib Jvm.Free Jvm.Stand Jvm.LawKit Jvm.RoadKit Bundle Jvm.Pilot.@@N@@.Jvm.D

theorem d1_0 : decode method_2_code 0 = .ok (.iload_n 0, 1) := by decide +kernel
theorem d1_1 : decode method_2_code 1 = .ok (.ifCond .ne 6, 3) := by decide +kernel
theorem d1_4 : decode method_2_code 4 = .ok (.bipush 127, 2) := by decide +kernel
theorem d1_6 : decode method_2_code 6 = .ok (.ireturn, 1) := by decide +kernel
theorem d1_7 : decode method_2_code 7 = .ok (.iload_n 0, 1) := by decide +kernel
theorem d1_8 : decode method_2_code 8 = .ok (.iconst 1, 1) := by decide +kernel
theorem d1_9 : decode method_2_code 9 = .ok (.if_icmp .ne 7, 3) := by decide +kernel
theorem d1_12 : decode method_2_code 12 = .ok (.sipush 2047, 3) := by decide +kernel
theorem d1_15 : decode method_2_code 15 = .ok (.ireturn, 1) := by decide +kernel
theorem d1_16 : decode method_2_code 16 = .ok (.iload_n 0, 1) := by decide +kernel
theorem d1_17 : decode method_2_code 17 = .ok (.iconst 2, 1) := by decide +kernel
theorem d1_18 : decode method_2_code 18 = .ok (.if_icmp .ne 6, 3) := by decide +kernel
theorem d1_21 : decode method_2_code 21 = .ok (.ldc 7, 2) := by decide +kernel
theorem d1_23 : decode method_2_code 23 = .ok (.ireturn, 1) := by decide +kernel
theorem d1_24 : decode method_2_code 24 = .ok (.ldc 8, 2) := by decide +kernel
theorem d1_26 : decode method_2_code 26 = .ok (.ireturn, 1) := by decide +kernel
theorem pn_0 : plainName "com/example/byeonhwa/byeonhwa/WordsUtf8LengthPinLaw" = true := by first | (simp [plainName, overriddenIn]; done) | decide +kernel
def f1 (p1 : Int32) : Int32 := if p1 = (0 : Int32) then (127 : Int32) else if p1 = (1 : Int32) then (2047 : Int32) else if p1 = (2 : Int32) then (65535 : Int32) else (2097151 : Int32)
theorem ef_1 (m : MethodId) (x0 : Int32) : entryFrame m #[(.int x0)] 1 = mkF m 0 #[.val (.int x0)] [] := by first | (simp [entryFrame, mkF, argsToLocals, Value.category]; done) | rfl
def Q1 (Z : State) (p1 : Int32) (h0 : Heap) (n0 : Nat) (v : Option Value) (h : Heap) (L : List Loc) : Prop := v = some (.int (f1 p1)) ∧ Fr n0 L ∧ h = h0
set_option maxRecDepth 65536 in
set_option maxHeartbeats 40000000 in
theorem rm1 (l : Launch) (Z : State) (a0 : Array Value) (hw : ∀ d ∈ tables_1, d.before a0 Z = true) (ws : List Jvm.Cond) (p1 : Int32) (h0 : Heap) (n0 : Nat) (Z0 : n0 ≤ h0.size) :
    MetFree l (⟨"com/example/byeonhwa/byeonhwa/WordsUtf8LengthPinLaw", "maskFor", "(I)I"⟩ : MethodName) (head1 (Jvm.Cond.code (⟨"com/example/byeonhwa/byeonhwa/WordsUtf8LengthPinLaw", "maskFor", "(I)I"⟩ : MethodName) method_2_code 1 (some .int) :: ws) ({ frames := 0, cells := 0, slots := 0, locals := 0 } : Room)) (fun a U => a = #[(.int p1)] ∧ Z.Warmed39 U.vm ∧ U.heap = h0) (fun _ _ _ _ _ => True) (fun _ U o U' => ∃ v L, o = .returned v ∧ Q1 Z p1 h0 n0 v U'.heap L ∧ FrameEnd U o U' L ({ frames := 0, cells := 0, slots := 0, locals := 0 } : Room).cells ({ frames := 0, cells := 0, slots := 0, locals := 0 } : Room).slots) := by
  refine MetFree.of_bodySF (plainFor_of_name pn_0) hisR ?_
  intro p e s m args below meth c s₁ Bd hml0 hP hK
  obtain ⟨rfl, hZ, hh⟩ := hP
  have hx := Bd.exec
  have hby := Bd.bytes
  have hml : c.maxLocals = 1 := hml0
  have hown : s.vm.findClass "com/example/byeonhwa/byeonhwa/WordsUtf8LengthPinLaw" = some m.cls := findClass_of_methodNamed Bd.named
  have hnm := (name_of_methodNamed Bd.named Bd.method).1
  have X0 : Stand p l e ({ frames := 0, cells := 0, slots := 0, locals := 0 } : Room) s m #[(.int p1)] below meth c s₁ [] 0 0 := Stand.of_body Bd
  have e0 : s₁.heap = h0 := by rw [← hh, Bd.state]; rfl
  have N0 := Fr.nil n0
  have pre0 : ∀ t, Steps p.tables e below (s₁.setTop (mkF m 0 #[.val (.int p1)] [])) t → Steps p.tables e below (s₁.setTop (entryFrame m #[(.int p1)] 1)) t := fun t k => castTop (ef_1 m p1) k
  have pre1 : ∀ t, Steps p.tables e below (s₁.setTop (mkF m 1 #[.val (.int p1)] [(.int p1)])) t → Steps p.tables e below (s₁.setTop (entryFrame m #[(.int p1)] 1)) t := fun t k => pre0 t (by
    show Steps p.tables e below (s₁.setTop (mkF m 0 #[.val (.int p1)] [])) _
    refine XS.iloadN X0.here hx rfl (hb hby d1_0) rfl ?_
    exact k)
  by_cases hc2 : p1 = (0 : Int32)
  · obtain ⟨fs, hr, hrun, hended, hW, hsame⟩ := X0.leave (v := some (.int (127 : Int32))) (fun h => by rw [Bd.returns] at h; cases h)
    refine ⟨_, _, pre1 _ ?_, hrun, hended, _, _, rfl, ?_, ⟨_, rfl⟩, hW, hsame.mono (by decide) (by decide)⟩
    · show Steps p.tables e below (s₁.setTop (mkF m 1 #[.val (.int p1)] [(.int p1)])) _
      refine XS.ifNo X0.here hx rfl (hb hby d1_1) rfl ((if0 _ _).trans (teq hc2).2) ?_
      show Steps p.tables e below (s₁.setTop (mkF m 4 #[.val (.int p1)] [])) _
      refine XS.bipush X0.here hx rfl (hb hby d1_4) ?_
      show Steps p.tables e below (s₁.setTop (mkF m 6 #[.val (.int p1)] [(.int (127 : Int32))])) _
      exact retI X0 hx Bd.returns (hb hby d1_6) hr
    · show Q1 Z p1 h0 n0 _ s₁.heap _
      rw [e0]
      exact ⟨by rw [show (f1 p1) = (127 : Int32) from by first | rfl | (rw [f1, if_pos hc2]) | (simp only [f1, if_pos hc2])], N0, rfl⟩
  · have pre4 : ∀ t, Steps p.tables e below (s₁.setTop (mkF m 9 #[.val (.int p1)] [(.int (1 : Int32)), (.int p1)])) t → Steps p.tables e below (s₁.setTop (entryFrame m #[(.int p1)] 1)) t := fun t k => pre1 t (by
      show Steps p.tables e below (s₁.setTop (mkF m 1 #[.val (.int p1)] [(.int p1)])) _
      refine XS.ifYes X0.here hx rfl (pc0 := 1) (pc' := 7) rfl (hb hby d1_1) rfl ((if0 _ _).trans (feq hc2).2) (by decide) (by decide) ?_
      show Steps p.tables e below (s₁.setTop (mkF m 7 #[.val (.int p1)] [])) _
      refine XS.iloadN X0.here hx rfl (hb hby d1_7) rfl ?_
      show Steps p.tables e below (s₁.setTop (mkF m 8 #[.val (.int p1)] [(.int p1)])) _
      refine XS.iconst X0.here hx rfl (hb hby d1_8) ?_
      exact k)
    by_cases hc5 : p1 = (1 : Int32)
    · obtain ⟨fs, hr, hrun, hended, hW, hsame⟩ := X0.leave (v := some (.int (2047 : Int32))) (fun h => by rw [Bd.returns] at h; cases h)
      refine ⟨_, _, pre4 _ ?_, hrun, hended, _, _, rfl, ?_, ⟨_, rfl⟩, hW, hsame.mono (by decide) (by decide)⟩
      · show Steps p.tables e below (s₁.setTop (mkF m 9 #[.val (.int p1)] [(.int (1 : Int32)), (.int p1)])) _
        refine XS.icmpNo X0.here hx rfl (hb hby d1_9) rfl (teq hc5).2 ?_
        show Steps p.tables e below (s₁.setTop (mkF m 12 #[.val (.int p1)] [])) _
        refine XS.sipush X0.here hx rfl (hb hby d1_12) ?_
        show Steps p.tables e below (s₁.setTop (mkF m 15 #[.val (.int p1)] [(.int (2047 : Int32))])) _
        exact retI X0 hx Bd.returns (hb hby d1_15) hr
      · show Q1 Z p1 h0 n0 _ s₁.heap _
        rw [e0]
        exact ⟨by rw [show (f1 p1) = (2047 : Int32) from by first | rfl | (rw [f1, if_neg hc2, if_pos hc5]) | (simp only [f1, if_neg hc2, if_pos hc5])], N0, rfl⟩
    · have pre7 : ∀ t, Steps p.tables e below (s₁.setTop (mkF m 18 #[.val (.int p1)] [(.int (2 : Int32)), (.int p1)])) t → Steps p.tables e below (s₁.setTop (entryFrame m #[(.int p1)] 1)) t := fun t k => pre4 t (by
        show Steps p.tables e below (s₁.setTop (mkF m 9 #[.val (.int p1)] [(.int (1 : Int32)), (.int p1)])) _
        refine XS.icmpYes X0.here hx rfl (pc0 := 9) (pc' := 16) rfl (hb hby d1_9) rfl (feq hc5).2 (by decide) (by decide) ?_
        show Steps p.tables e below (s₁.setTop (mkF m 16 #[.val (.int p1)] [])) _
        refine XS.iloadN X0.here hx rfl (hb hby d1_16) rfl ?_
        show Steps p.tables e below (s₁.setTop (mkF m 17 #[.val (.int p1)] [(.int p1)])) _
        refine XS.iconst X0.here hx rfl (hb hby d1_17) ?_
        exact k)
      by_cases hc8 : p1 = (2 : Int32)
      · obtain ⟨fs, hr, hrun, hended, hW, hsame⟩ := X0.leave (v := some (.int (65535 : Int32))) (fun h => by rw [Bd.returns] at h; cases h)
        refine ⟨_, _, pre7 _ ?_, hrun, hended, _, _, rfl, ?_, ⟨_, rfl⟩, hW, hsame.mono (by decide) (by decide)⟩
        · show Steps p.tables e below (s₁.setTop (mkF m 18 #[.val (.int p1)] [(.int (2 : Int32)), (.int p1)])) _
          refine XS.icmpNo X0.here hx rfl (hb hby d1_18) rfl (teq hc8).2 ?_
          show Steps p.tables e below (s₁.setTop (mkF m 21 #[.val (.int p1)] [])) _
          refine X0.ldcInt hx hown (mvT hZ (hw _ (List.mem_of_getElem? (i := 12) rfl))) (g := (mkF m 21 #[.val (.int p1)] [])) rfl (hb hby d1_21) _ ?_
          show Steps p.tables e below (s₁.setTop (mkF m 23 #[.val (.int p1)] [(.int (65535 : Int32))])) _
          exact retI X0 hx Bd.returns (hb hby d1_23) hr
        · show Q1 Z p1 h0 n0 _ s₁.heap _
          rw [e0]
          exact ⟨by rw [show (f1 p1) = (65535 : Int32) from by first | rfl | (rw [f1, if_neg hc2, if_neg hc5, if_pos hc8]) | (simp only [f1, if_neg hc2, if_neg hc5, if_pos hc8])], N0, rfl⟩
      · obtain ⟨fs, hr, hrun, hended, hW, hsame⟩ := X0.leave (v := some (.int (2097151 : Int32))) (fun h => by rw [Bd.returns] at h; cases h)
        refine ⟨_, _, pre7 _ ?_, hrun, hended, _, _, rfl, ?_, ⟨_, rfl⟩, hW, hsame.mono (by decide) (by decide)⟩
        · show Steps p.tables e below (s₁.setTop (mkF m 18 #[.val (.int p1)] [(.int (2 : Int32)), (.int p1)])) _
          refine XS.icmpYes X0.here hx rfl (pc0 := 18) (pc' := 24) rfl (hb hby d1_18) rfl (feq hc8).2 (by decide) (by decide) ?_
          show Steps p.tables e below (s₁.setTop (mkF m 24 #[.val (.int p1)] [])) _
          refine X0.ldcInt hx hown (mvT hZ (hw _ (List.mem_of_getElem? (i := 4) rfl))) (g := (mkF m 24 #[.val (.int p1)] [])) rfl (hb hby d1_24) _ ?_
          show Steps p.tables e below (s₁.setTop (mkF m 26 #[.val (.int p1)] [(.int (2097151 : Int32))])) _
          exact retI X0 hx Bd.returns (hb hby d1_26) hr
        · show Q1 Z p1 h0 n0 _ s₁.heap _
          rw [e0]
          exact ⟨by rw [show (f1 p1) = (2097151 : Int32) from by first | rfl | (rw [f1, if_neg hc2, if_neg hc5, if_neg hc8]) | (simp only [f1, if_neg hc2, if_neg hc5, if_neg hc8])], N0, rfl⟩
theorem d2_0 : decode method_3_code 0 = .ok (.iload_n 0, 1) := by decide +kernel
theorem d2_1 : decode method_3_code 1 = .ok (.bipush 7, 2) := by decide +kernel
theorem d2_3 : decode method_3_code 3 = .ok (.iushr, 1) := by decide +kernel
theorem d2_4 : decode method_3_code 4 = .ok (.ifCond .ne 5, 3) := by decide +kernel
theorem d2_7 : decode method_3_code 7 = .ok (.iconst 1, 1) := by decide +kernel
theorem d2_8 : decode method_3_code 8 = .ok (.ireturn, 1) := by decide +kernel
theorem d2_9 : decode method_3_code 9 = .ok (.iload_n 0, 1) := by decide +kernel
theorem d2_10 : decode method_3_code 10 = .ok (.bipush 11, 2) := by decide +kernel
theorem d2_12 : decode method_3_code 12 = .ok (.iushr, 1) := by decide +kernel
theorem d2_13 : decode method_3_code 13 = .ok (.ifCond .ne 5, 3) := by decide +kernel
theorem d2_16 : decode method_3_code 16 = .ok (.iconst 2, 1) := by decide +kernel
theorem d2_17 : decode method_3_code 17 = .ok (.ireturn, 1) := by decide +kernel
theorem d2_18 : decode method_3_code 18 = .ok (.iload_n 0, 1) := by decide +kernel
theorem d2_19 : decode method_3_code 19 = .ok (.bipush 16, 2) := by decide +kernel
theorem d2_21 : decode method_3_code 21 = .ok (.iushr, 1) := by decide +kernel
theorem d2_22 : decode method_3_code 22 = .ok (.ifCond .ne 5, 3) := by decide +kernel
theorem d2_25 : decode method_3_code 25 = .ok (.iconst 3, 1) := by decide +kernel
theorem d2_26 : decode method_3_code 26 = .ok (.ireturn, 1) := by decide +kernel
theorem d2_27 : decode method_3_code 27 = .ok (.iconst 4, 1) := by decide +kernel
theorem d2_28 : decode method_3_code 28 = .ok (.ireturn, 1) := by decide +kernel
def f2 (p1 : Int32) : Int32 := if ((p1.toUInt32 >>> ((7 : Int32) &&& 31).toUInt32).toInt32) = (0 : Int32) then (1 : Int32) else if ((p1.toUInt32 >>> ((11 : Int32) &&& 31).toUInt32).toInt32) = (0 : Int32) then (2 : Int32) else if ((p1.toUInt32 >>> ((16 : Int32) &&& 31).toUInt32).toInt32) = (0 : Int32) then (3 : Int32) else (4 : Int32)
theorem ef_2 (m : MethodId) (x0 : Int32) : entryFrame m #[(.int x0)] 1 = mkF m 0 #[.val (.int x0)] [] := by first | (simp [entryFrame, mkF, argsToLocals, Value.category]; done) | rfl
def Q2 (Z : State) (p1 : Int32) (h0 : Heap) (n0 : Nat) (v : Option Value) (h : Heap) (L : List Loc) : Prop := v = some (.int (f2 p1)) ∧ Fr n0 L ∧ h = h0
set_option maxRecDepth 65536 in
set_option maxHeartbeats 40000000 in
theorem rm2 (l : Launch) (Z : State) (a0 : Array Value) (hw : ∀ d ∈ tables_1, d.before a0 Z = true) (ws : List Jvm.Cond) (p1 : Int32) (h0 : Heap) (n0 : Nat) (Z0 : n0 ≤ h0.size) :
    MetFree l (⟨"com/example/byeonhwa/byeonhwa/WordsUtf8LengthPinLaw", "payloadBytes", "(I)I"⟩ : MethodName) (head1 (Jvm.Cond.code (⟨"com/example/byeonhwa/byeonhwa/WordsUtf8LengthPinLaw", "payloadBytes", "(I)I"⟩ : MethodName) method_3_code 1 (some .int) :: ws) ({ frames := 0, cells := 0, slots := 0, locals := 0 } : Room)) (fun a U => a = #[(.int p1)] ∧ Z.Warmed39 U.vm ∧ U.heap = h0) (fun _ _ _ _ _ => True) (fun _ U o U' => ∃ v L, o = .returned v ∧ Q2 Z p1 h0 n0 v U'.heap L ∧ FrameEnd U o U' L ({ frames := 0, cells := 0, slots := 0, locals := 0 } : Room).cells ({ frames := 0, cells := 0, slots := 0, locals := 0 } : Room).slots) := by
  refine MetFree.of_bodySF (plainFor_of_name pn_0) hisR ?_
  intro p e s m args below meth c s₁ Bd hml0 hP hK
  obtain ⟨rfl, hZ, hh⟩ := hP
  have hx := Bd.exec
  have hby := Bd.bytes
  have hml : c.maxLocals = 1 := hml0
  have hown : s.vm.findClass "com/example/byeonhwa/byeonhwa/WordsUtf8LengthPinLaw" = some m.cls := findClass_of_methodNamed Bd.named
  have hnm := (name_of_methodNamed Bd.named Bd.method).1
  have X0 : Stand p l e ({ frames := 0, cells := 0, slots := 0, locals := 0 } : Room) s m #[(.int p1)] below meth c s₁ [] 0 0 := Stand.of_body Bd
  have e0 : s₁.heap = h0 := by rw [← hh, Bd.state]; rfl
  have N0 := Fr.nil n0
  have pre0 : ∀ t, Steps p.tables e below (s₁.setTop (mkF m 0 #[.val (.int p1)] [])) t → Steps p.tables e below (s₁.setTop (entryFrame m #[(.int p1)] 1)) t := fun t k => castTop (ef_2 m p1) k
  have pre1 : ∀ t, Steps p.tables e below (s₁.setTop (mkF m 4 #[.val (.int p1)] [(.int ((p1.toUInt32 >>> ((7 : Int32) &&& 31).toUInt32).toInt32))])) t → Steps p.tables e below (s₁.setTop (entryFrame m #[(.int p1)] 1)) t := fun t k => pre0 t (by
    show Steps p.tables e below (s₁.setTop (mkF m 0 #[.val (.int p1)] [])) _
    refine XS.iloadN X0.here hx rfl (hb hby d2_0) rfl ?_
    show Steps p.tables e below (s₁.setTop (mkF m 1 #[.val (.int p1)] [(.int p1)])) _
    refine XS.bipush X0.here hx rfl (hb hby d2_1) ?_
    show Steps p.tables e below (s₁.setTop (mkF m 3 #[.val (.int p1)] [(.int (7 : Int32)), (.int p1)])) _
    refine XS.iushr X0.here hx rfl (hb hby d2_3) rfl ?_
    exact k)
  by_cases hc2 : ((p1.toUInt32 >>> ((7 : Int32) &&& 31).toUInt32).toInt32) = (0 : Int32)
  · obtain ⟨fs, hr, hrun, hended, hW, hsame⟩ := X0.leave (v := some (.int (1 : Int32))) (fun h => by rw [Bd.returns] at h; cases h)
    refine ⟨_, _, pre1 _ ?_, hrun, hended, _, _, rfl, ?_, ⟨_, rfl⟩, hW, hsame.mono (by decide) (by decide)⟩
    · show Steps p.tables e below (s₁.setTop (mkF m 4 #[.val (.int p1)] [(.int ((p1.toUInt32 >>> ((7 : Int32) &&& 31).toUInt32).toInt32))])) _
      refine XS.ifNo X0.here hx rfl (hb hby d2_4) rfl ((if0 _ _).trans (teq hc2).2) ?_
      show Steps p.tables e below (s₁.setTop (mkF m 7 #[.val (.int p1)] [])) _
      refine XS.iconst X0.here hx rfl (hb hby d2_7) ?_
      show Steps p.tables e below (s₁.setTop (mkF m 8 #[.val (.int p1)] [(.int (1 : Int32))])) _
      exact retI X0 hx Bd.returns (hb hby d2_8) hr
    · show Q2 Z p1 h0 n0 _ s₁.heap _
      rw [e0]
      exact ⟨by rw [show (f2 p1) = (1 : Int32) from by first | rfl | (rw [f2, if_pos hc2]) | (simp only [f2, if_pos hc2])], N0, rfl⟩
  · have pre4 : ∀ t, Steps p.tables e below (s₁.setTop (mkF m 13 #[.val (.int p1)] [(.int ((p1.toUInt32 >>> ((11 : Int32) &&& 31).toUInt32).toInt32))])) t → Steps p.tables e below (s₁.setTop (entryFrame m #[(.int p1)] 1)) t := fun t k => pre1 t (by
      show Steps p.tables e below (s₁.setTop (mkF m 4 #[.val (.int p1)] [(.int ((p1.toUInt32 >>> ((7 : Int32) &&& 31).toUInt32).toInt32))])) _
      refine XS.ifYes X0.here hx rfl (pc0 := 4) (pc' := 9) rfl (hb hby d2_4) rfl ((if0 _ _).trans (feq hc2).2) (by decide) (by decide) ?_
      show Steps p.tables e below (s₁.setTop (mkF m 9 #[.val (.int p1)] [])) _
      refine XS.iloadN X0.here hx rfl (hb hby d2_9) rfl ?_
      show Steps p.tables e below (s₁.setTop (mkF m 10 #[.val (.int p1)] [(.int p1)])) _
      refine XS.bipush X0.here hx rfl (hb hby d2_10) ?_
      show Steps p.tables e below (s₁.setTop (mkF m 12 #[.val (.int p1)] [(.int (11 : Int32)), (.int p1)])) _
      refine XS.iushr X0.here hx rfl (hb hby d2_12) rfl ?_
      exact k)
    by_cases hc5 : ((p1.toUInt32 >>> ((11 : Int32) &&& 31).toUInt32).toInt32) = (0 : Int32)
    · obtain ⟨fs, hr, hrun, hended, hW, hsame⟩ := X0.leave (v := some (.int (2 : Int32))) (fun h => by rw [Bd.returns] at h; cases h)
      refine ⟨_, _, pre4 _ ?_, hrun, hended, _, _, rfl, ?_, ⟨_, rfl⟩, hW, hsame.mono (by decide) (by decide)⟩
      · show Steps p.tables e below (s₁.setTop (mkF m 13 #[.val (.int p1)] [(.int ((p1.toUInt32 >>> ((11 : Int32) &&& 31).toUInt32).toInt32))])) _
        refine XS.ifNo X0.here hx rfl (hb hby d2_13) rfl ((if0 _ _).trans (teq hc5).2) ?_
        show Steps p.tables e below (s₁.setTop (mkF m 16 #[.val (.int p1)] [])) _
        refine XS.iconst X0.here hx rfl (hb hby d2_16) ?_
        show Steps p.tables e below (s₁.setTop (mkF m 17 #[.val (.int p1)] [(.int (2 : Int32))])) _
        exact retI X0 hx Bd.returns (hb hby d2_17) hr
      · show Q2 Z p1 h0 n0 _ s₁.heap _
        rw [e0]
        exact ⟨by rw [show (f2 p1) = (2 : Int32) from by first | rfl | (rw [f2, if_neg hc2, if_pos hc5]) | (simp only [f2, if_neg hc2, if_pos hc5])], N0, rfl⟩
    · have pre7 : ∀ t, Steps p.tables e below (s₁.setTop (mkF m 22 #[.val (.int p1)] [(.int ((p1.toUInt32 >>> ((16 : Int32) &&& 31).toUInt32).toInt32))])) t → Steps p.tables e below (s₁.setTop (entryFrame m #[(.int p1)] 1)) t := fun t k => pre4 t (by
        show Steps p.tables e below (s₁.setTop (mkF m 13 #[.val (.int p1)] [(.int ((p1.toUInt32 >>> ((11 : Int32) &&& 31).toUInt32).toInt32))])) _
        refine XS.ifYes X0.here hx rfl (pc0 := 13) (pc' := 18) rfl (hb hby d2_13) rfl ((if0 _ _).trans (feq hc5).2) (by decide) (by decide) ?_
        show Steps p.tables e below (s₁.setTop (mkF m 18 #[.val (.int p1)] [])) _
        refine XS.iloadN X0.here hx rfl (hb hby d2_18) rfl ?_
        show Steps p.tables e below (s₁.setTop (mkF m 19 #[.val (.int p1)] [(.int p1)])) _
        refine XS.bipush X0.here hx rfl (hb hby d2_19) ?_
        show Steps p.tables e below (s₁.setTop (mkF m 21 #[.val (.int p1)] [(.int (16 : Int32)), (.int p1)])) _
        refine XS.iushr X0.here hx rfl (hb hby d2_21) rfl ?_
        exact k)
      by_cases hc8 : ((p1.toUInt32 >>> ((16 : Int32) &&& 31).toUInt32).toInt32) = (0 : Int32)
      · obtain ⟨fs, hr, hrun, hended, hW, hsame⟩ := X0.leave (v := some (.int (3 : Int32))) (fun h => by rw [Bd.returns] at h; cases h)
        refine ⟨_, _, pre7 _ ?_, hrun, hended, _, _, rfl, ?_, ⟨_, rfl⟩, hW, hsame.mono (by decide) (by decide)⟩
        · show Steps p.tables e below (s₁.setTop (mkF m 22 #[.val (.int p1)] [(.int ((p1.toUInt32 >>> ((16 : Int32) &&& 31).toUInt32).toInt32))])) _
          refine XS.ifNo X0.here hx rfl (hb hby d2_22) rfl ((if0 _ _).trans (teq hc8).2) ?_
          show Steps p.tables e below (s₁.setTop (mkF m 25 #[.val (.int p1)] [])) _
          refine XS.iconst X0.here hx rfl (hb hby d2_25) ?_
          show Steps p.tables e below (s₁.setTop (mkF m 26 #[.val (.int p1)] [(.int (3 : Int32))])) _
          exact retI X0 hx Bd.returns (hb hby d2_26) hr
        · show Q2 Z p1 h0 n0 _ s₁.heap _
          rw [e0]
          exact ⟨by rw [show (f2 p1) = (3 : Int32) from by first | rfl | (rw [f2, if_neg hc2, if_neg hc5, if_pos hc8]) | (simp only [f2, if_neg hc2, if_neg hc5, if_pos hc8])], N0, rfl⟩
      · obtain ⟨fs, hr, hrun, hended, hW, hsame⟩ := X0.leave (v := some (.int (4 : Int32))) (fun h => by rw [Bd.returns] at h; cases h)
        refine ⟨_, _, pre7 _ ?_, hrun, hended, _, _, rfl, ?_, ⟨_, rfl⟩, hW, hsame.mono (by decide) (by decide)⟩
        · show Steps p.tables e below (s₁.setTop (mkF m 22 #[.val (.int p1)] [(.int ((p1.toUInt32 >>> ((16 : Int32) &&& 31).toUInt32).toInt32))])) _
          refine XS.ifYes X0.here hx rfl (pc0 := 22) (pc' := 27) rfl (hb hby d2_22) rfl ((if0 _ _).trans (feq hc8).2) (by decide) (by decide) ?_
          show Steps p.tables e below (s₁.setTop (mkF m 27 #[.val (.int p1)] [])) _
          refine XS.iconst X0.here hx rfl (hb hby d2_27) ?_
          show Steps p.tables e below (s₁.setTop (mkF m 28 #[.val (.int p1)] [(.int (4 : Int32))])) _
          exact retI X0 hx Bd.returns (hb hby d2_28) hr
        · show Q2 Z p1 h0 n0 _ s₁.heap _
          rw [e0]
          exact ⟨by rw [show (f2 p1) = (4 : Int32) from by first | rfl | (rw [f2, if_neg hc2, if_neg hc5, if_neg hc8]) | (simp only [f2, if_neg hc2, if_neg hc5, if_neg hc8])], N0, rfl⟩
theorem d3_0 : decode prog_66_method_4_code 0 = .ok (.iload_n 0, 1) := by decide +kernel
theorem d3_1 : decode prog_66_method_4_code 1 = .ok (.sipush 128, 3) := by decide +kernel
theorem d3_4 : decode prog_66_method_4_code 4 = .ok (.if_icmp .ge 8, 3) := by decide +kernel
theorem d3_7 : decode prog_66_method_4_code 7 = .ok (.iconst 1, 1) := by decide +kernel
theorem d3_8 : decode prog_66_method_4_code 8 = .ok (.istore_n 1, 1) := by decide +kernel
theorem d3_9 : decode prog_66_method_4_code 9 = .ok (.goto 28, 3) := by decide +kernel
theorem d3_12 : decode prog_66_method_4_code 12 = .ok (.iload_n 0, 1) := by decide +kernel
theorem d3_13 : decode prog_66_method_4_code 13 = .ok (.sipush 2048, 3) := by decide +kernel
theorem d3_16 : decode prog_66_method_4_code 16 = .ok (.if_icmp .ge 8, 3) := by decide +kernel
theorem d3_19 : decode prog_66_method_4_code 19 = .ok (.iconst 2, 1) := by decide +kernel
theorem d3_20 : decode prog_66_method_4_code 20 = .ok (.istore_n 1, 1) := by decide +kernel
theorem d3_21 : decode prog_66_method_4_code 21 = .ok (.goto 16, 3) := by decide +kernel
theorem d3_24 : decode prog_66_method_4_code 24 = .ok (.iload_n 0, 1) := by decide +kernel
theorem d3_25 : decode prog_66_method_4_code 25 = .ok (.ldc 67, 2) := by decide +kernel
theorem d3_27 : decode prog_66_method_4_code 27 = .ok (.if_icmp .ge 8, 3) := by decide +kernel
theorem d3_30 : decode prog_66_method_4_code 30 = .ok (.iconst 3, 1) := by decide +kernel
theorem d3_31 : decode prog_66_method_4_code 31 = .ok (.istore_n 1, 1) := by decide +kernel
theorem d3_32 : decode prog_66_method_4_code 32 = .ok (.goto 5, 3) := by decide +kernel
theorem d3_35 : decode prog_66_method_4_code 35 = .ok (.iconst 4, 1) := by decide +kernel
theorem d3_36 : decode prog_66_method_4_code 36 = .ok (.istore_n 1, 1) := by decide +kernel
theorem d3_37 : decode prog_66_method_4_code 37 = .ok (.iload_n 1, 1) := by decide +kernel
theorem d3_38 : decode prog_66_method_4_code 38 = .ok (.ireturn, 1) := by decide +kernel
theorem pn_1 : plainName "com/example/byeonhwa/byeonhwa/Words" = true := by first | (simp [plainName, overriddenIn]; done) | decide +kernel
def m3_2_0 (p1 : Int32) : Int32 := (if p1 < (128 : Int32) then (1 : Int32) else (if p1 < (2048 : Int32) then (2 : Int32) else (if p1 < (65536 : Int32) then (3 : Int32) else (4 : Int32))))
def f3 (p1 : Int32) : Int32 := (m3_2_0 p1)
theorem ef_3 (m : MethodId) (x0 : Int32) : entryFrame m #[(.int x0)] 2 = mkF m 0 #[.val (.int x0), .unset] [] := by first | (simp [entryFrame, mkF, argsToLocals, Value.category]; done) | rfl
def Q3 (Z : State) (p1 : Int32) (h0 : Heap) (n0 : Nat) (v : Option Value) (h : Heap) (L : List Loc) : Prop := v = some (.int (f3 p1)) ∧ Fr n0 L ∧ h = h0
set_option maxRecDepth 65536 in
set_option maxHeartbeats 40000000 in
theorem rm3 (l : Launch) (Z : State) (a0 : Array Value) (hw : ∀ d ∈ tables_1, d.before a0 Z = true) (ws : List Jvm.Cond) (p1 : Int32) (h0 : Heap) (n0 : Nat) (Z0 : n0 ≤ h0.size) :
    MetFree l (⟨"com/example/byeonhwa/byeonhwa/Words", "utf8Length", "(I)I"⟩ : MethodName) (head1 (Jvm.Cond.code (⟨"com/example/byeonhwa/byeonhwa/Words", "utf8Length", "(I)I"⟩ : MethodName) prog_66_method_4_code 2 (some .int) :: ws) ({ frames := 0, cells := 0, slots := 0, locals := 0 } : Room)) (fun a U => a = #[(.int p1)] ∧ Z.Warmed39 U.vm ∧ U.heap = h0) (fun _ _ _ _ _ => True) (fun _ U o U' => ∃ v L, o = .returned v ∧ Q3 Z p1 h0 n0 v U'.heap L ∧ FrameEnd U o U' L ({ frames := 0, cells := 0, slots := 0, locals := 0 } : Room).cells ({ frames := 0, cells := 0, slots := 0, locals := 0 } : Room).slots) := by
  refine MetFree.of_bodySF (plainFor_of_name pn_1) hisR ?_
  intro p e s m args below meth c s₁ Bd hml0 hP hK
  obtain ⟨rfl, hZ, hh⟩ := hP
  have hx := Bd.exec
  have hby := Bd.bytes
  have hml : c.maxLocals = 2 := hml0
  have hown : s.vm.findClass "com/example/byeonhwa/byeonhwa/Words" = some m.cls := findClass_of_methodNamed Bd.named
  have hnm := (name_of_methodNamed Bd.named Bd.method).1
  have X0 : Stand p l e ({ frames := 0, cells := 0, slots := 0, locals := 0 } : Room) s m #[(.int p1)] below meth c s₁ [] 0 0 := Stand.of_body Bd
  have e0 : s₁.heap = h0 := by rw [← hh, Bd.state]; rfl
  have N0 := Fr.nil n0
  have pre0 : ∀ t, Steps p.tables e below (s₁.setTop (mkF m 0 #[.val (.int p1), .unset] [])) t → Steps p.tables e below (s₁.setTop (entryFrame m #[(.int p1)] 2)) t := fun t k => castTop (ef_3 m p1) k
  have pre1 : ∀ t, Steps p.tables e below (s₁.setTop (mkF m 4 #[.val (.int p1), .unset] [(.int (128 : Int32)), (.int p1)])) t → Steps p.tables e below (s₁.setTop (entryFrame m #[(.int p1)] 2)) t := fun t k => pre0 t (by
    show Steps p.tables e below (s₁.setTop (mkF m 0 #[.val (.int p1), .unset] [])) _
    refine XS.iloadN X0.here hx rfl (hb hby d3_0) rfl ?_
    show Steps p.tables e below (s₁.setTop (mkF m 1 #[.val (.int p1), .unset] [(.int p1)])) _
    refine XS.sipush X0.here hx rfl (hb hby d3_1) ?_
    exact k)
  have pre2 : ∀ t, Steps p.tables e below (s₁.setTop (mkF m 37 #[.val (.int p1), .val (.int (m3_2_0 p1))] [])) t → Steps p.tables e below (s₁.setTop (entryFrame m #[(.int p1)] 2)) t := by
    intro t k
    by_cases hc3 : p1 < (128 : Int32)
    · rw [show (m3_2_0 p1) = (1 : Int32) from by first | rfl | (rw [m3_2_0, if_pos hc3]) | (simp only [m3_2_0, if_pos hc3])] at k
      refine pre1 t ?_
      show Steps p.tables e below (s₁.setTop (mkF m 4 #[.val (.int p1), .unset] [(.int (128 : Int32)), (.int p1)])) _
      refine XS.icmpNo X0.here hx rfl (hb hby d3_4) rfl (tlt hc3).2.1 ?_
      show Steps p.tables e below (s₁.setTop (mkF m 7 #[.val (.int p1), .unset] [])) _
      refine XS.iconst X0.here hx rfl (hb hby d3_7) ?_
      show Steps p.tables e below (s₁.setTop (mkF m 8 #[.val (.int p1), .unset] [(.int (1 : Int32))])) _
      refine XS.istoreN X0.here hx rfl (hb hby d3_8) rfl (l' := #[.val (.int p1), .val (.int (1 : Int32))]) rfl ?_
      show Steps p.tables e below (s₁.setTop (mkF m 9 #[.val (.int p1), .val (.int (1 : Int32))] [])) _
      refine XS.goto X0.here hx rfl (pc0 := 9) (pc' := 37) rfl (hb hby d3_9) (by decide) (by decide) ?_
      exact k
    · have pre4 : ∀ t, Steps p.tables e below (s₁.setTop (mkF m 16 #[.val (.int p1), .unset] [(.int (2048 : Int32)), (.int p1)])) t → Steps p.tables e below (s₁.setTop (entryFrame m #[(.int p1)] 2)) t := fun t k => pre1 t (by
        show Steps p.tables e below (s₁.setTop (mkF m 4 #[.val (.int p1), .unset] [(.int (128 : Int32)), (.int p1)])) _
        refine XS.icmpYes X0.here hx rfl (pc0 := 4) (pc' := 12) rfl (hb hby d3_4) rfl (flt hc3).2.1 (by decide) (by decide) ?_
        show Steps p.tables e below (s₁.setTop (mkF m 12 #[.val (.int p1), .unset] [])) _
        refine XS.iloadN X0.here hx rfl (hb hby d3_12) rfl ?_
        show Steps p.tables e below (s₁.setTop (mkF m 13 #[.val (.int p1), .unset] [(.int p1)])) _
        refine XS.sipush X0.here hx rfl (hb hby d3_13) ?_
        exact k)
      by_cases hc5 : p1 < (2048 : Int32)
      · rw [show (m3_2_0 p1) = (2 : Int32) from by first | rfl | (rw [m3_2_0, if_neg hc3, if_pos hc5]) | (simp only [m3_2_0, if_neg hc3, if_pos hc5])] at k
        refine pre4 t ?_
        show Steps p.tables e below (s₁.setTop (mkF m 16 #[.val (.int p1), .unset] [(.int (2048 : Int32)), (.int p1)])) _
        refine XS.icmpNo X0.here hx rfl (hb hby d3_16) rfl (tlt hc5).2.1 ?_
        show Steps p.tables e below (s₁.setTop (mkF m 19 #[.val (.int p1), .unset] [])) _
        refine XS.iconst X0.here hx rfl (hb hby d3_19) ?_
        show Steps p.tables e below (s₁.setTop (mkF m 20 #[.val (.int p1), .unset] [(.int (2 : Int32))])) _
        refine XS.istoreN X0.here hx rfl (hb hby d3_20) rfl (l' := #[.val (.int p1), .val (.int (2 : Int32))]) rfl ?_
        show Steps p.tables e below (s₁.setTop (mkF m 21 #[.val (.int p1), .val (.int (2 : Int32))] [])) _
        refine XS.goto X0.here hx rfl (pc0 := 21) (pc' := 37) rfl (hb hby d3_21) (by decide) (by decide) ?_
        exact k
      · have pre6 : ∀ t, Steps p.tables e below (s₁.setTop (mkF m 27 #[.val (.int p1), .unset] [(.int (65536 : Int32)), (.int p1)])) t → Steps p.tables e below (s₁.setTop (entryFrame m #[(.int p1)] 2)) t := fun t k => pre4 t (by
          show Steps p.tables e below (s₁.setTop (mkF m 16 #[.val (.int p1), .unset] [(.int (2048 : Int32)), (.int p1)])) _
          refine XS.icmpYes X0.here hx rfl (pc0 := 16) (pc' := 24) rfl (hb hby d3_16) rfl (flt hc5).2.1 (by decide) (by decide) ?_
          show Steps p.tables e below (s₁.setTop (mkF m 24 #[.val (.int p1), .unset] [])) _
          refine XS.iloadN X0.here hx rfl (hb hby d3_24) rfl ?_
          show Steps p.tables e below (s₁.setTop (mkF m 25 #[.val (.int p1), .unset] [(.int p1)])) _
          refine X0.ldcInt hx hown (mvT hZ (hw _ (List.mem_of_getElem? (i := 13) rfl))) (g := (mkF m 25 #[.val (.int p1), .unset] [(.int p1)])) rfl (hb hby d3_25) _ ?_
          exact k)
        by_cases hc7 : p1 < (65536 : Int32)
        · rw [show (m3_2_0 p1) = (3 : Int32) from by first | rfl | (rw [m3_2_0, if_neg hc3, if_neg hc5, if_pos hc7]) | (simp only [m3_2_0, if_neg hc3, if_neg hc5, if_pos hc7])] at k
          refine pre6 t ?_
          show Steps p.tables e below (s₁.setTop (mkF m 27 #[.val (.int p1), .unset] [(.int (65536 : Int32)), (.int p1)])) _
          refine XS.icmpNo X0.here hx rfl (hb hby d3_27) rfl (tlt hc7).2.1 ?_
          show Steps p.tables e below (s₁.setTop (mkF m 30 #[.val (.int p1), .unset] [])) _
          refine XS.iconst X0.here hx rfl (hb hby d3_30) ?_
          show Steps p.tables e below (s₁.setTop (mkF m 31 #[.val (.int p1), .unset] [(.int (3 : Int32))])) _
          refine XS.istoreN X0.here hx rfl (hb hby d3_31) rfl (l' := #[.val (.int p1), .val (.int (3 : Int32))]) rfl ?_
          show Steps p.tables e below (s₁.setTop (mkF m 32 #[.val (.int p1), .val (.int (3 : Int32))] [])) _
          refine XS.goto X0.here hx rfl (pc0 := 32) (pc' := 37) rfl (hb hby d3_32) (by decide) (by decide) ?_
          exact k
        · rw [show (m3_2_0 p1) = (4 : Int32) from by first | rfl | (rw [m3_2_0, if_neg hc3, if_neg hc5, if_neg hc7]) | (simp only [m3_2_0, if_neg hc3, if_neg hc5, if_neg hc7])] at k
          refine pre6 t ?_
          show Steps p.tables e below (s₁.setTop (mkF m 27 #[.val (.int p1), .unset] [(.int (65536 : Int32)), (.int p1)])) _
          refine XS.icmpYes X0.here hx rfl (pc0 := 27) (pc' := 35) rfl (hb hby d3_27) rfl (flt hc7).2.1 (by decide) (by decide) ?_
          show Steps p.tables e below (s₁.setTop (mkF m 35 #[.val (.int p1), .unset] [])) _
          refine XS.iconst X0.here hx rfl (hb hby d3_35) ?_
          show Steps p.tables e below (s₁.setTop (mkF m 36 #[.val (.int p1), .unset] [(.int (4 : Int32))])) _
          refine XS.istoreN X0.here hx rfl (hb hby d3_36) rfl (l' := #[.val (.int p1), .val (.int (4 : Int32))]) rfl ?_
          exact k
  obtain ⟨fs, hr, hrun, hended, hW, hsame⟩ := X0.leave (v := some (.int (m3_2_0 p1))) (fun h => by rw [Bd.returns] at h; cases h)
  refine ⟨_, _, pre2 _ ?_, hrun, hended, _, _, rfl, ?_, ⟨_, rfl⟩, hW, hsame.mono (by decide) (by decide)⟩
  · show Steps p.tables e below (s₁.setTop (mkF m 37 #[.val (.int p1), .val (.int (m3_2_0 p1))] [])) _
    refine XS.iloadN X0.here hx rfl (hb hby d3_37) rfl ?_
    show Steps p.tables e below (s₁.setTop (mkF m 38 #[.val (.int p1), .val (.int (m3_2_0 p1))] [(.int (m3_2_0 p1))])) _
    exact retI X0 hx Bd.returns (hb hby d3_38) hr
  · show Q3 Z p1 h0 n0 _ s₁.heap _
    rw [e0]
    exact ⟨by rw [show (f3 p1) = (m3_2_0 p1) from by first | rfl | (rw [f3]) | (simp only [f3])], N0, rfl⟩
theorem pd_0 : parseMethodDescriptor "(I)I" = some ⟨[.int], some .int⟩ := by decide +kernel
def f0 (p1 : Int32) (p2 : Int32) : Int32 := if (f3 (p1 &&& (f1 (p2 &&& (3 : Int32))))) = (f2 (p1 &&& (f1 (p2 &&& (3 : Int32))))) then (1 : Int32) else (0 : Int32)
theorem ef_0 (m : MethodId) (x0 : Int32) (x1 : Int32) : entryFrame m #[(.int x0), (.int x1)] maxLocals = mkF m 0 #[.val (.int x0), .val (.int x1), .unset, .unset, .unset] [] := by first | (simp [entryFrame, mkF, argsToLocals, Value.category, maxLocals]; done) | rfl
def Q0 (Z : State) (p1 : Int32) (p2 : Int32) (h0 : Heap) (n0 : Nat) (v : Option Value) (h : Heap) (L : List Loc) : Prop := v = some (.int (f0 p1 p2)) ∧ Fr n0 L
set_option maxRecDepth 65536 in
set_option maxHeartbeats 40000000 in
theorem rm0 (l : Launch) (Z : State) (a0 : Array Value) (hw : ∀ d ∈ tables_1, d.before a0 Z = true) (ws : List Jvm.Cond) (p1 : Int32) (p2 : Int32) (h0 : Heap) (n0 : Nat) (Z0 : n0 ≤ h0.size) :
    MetFree l x (head1 (Jvm.Cond.code x code maxLocals ret :: ws) room_1) (fun a U => a = #[(.int p1), (.int p2)] ∧ Z.Warmed39 U.vm ∧ U.heap = h0) (fun _ _ _ _ _ => True) (fun _ U o U' => ∃ v L, o = .returned v ∧ Q0 Z p1 p2 h0 n0 v U'.heap L ∧ FrameEnd U o U' L room_1.cells room_1.slots) := by
  refine MetFree.of_bodySF (plainFor_of_name pn_0) hisR ?_
  intro p e s m args below meth c s₁ Bd hml0 hP hK
  obtain ⟨rfl, hZ, hh⟩ := hP
  have hx := Bd.exec
  have hby := Bd.bytes
  have hml : c.maxLocals = 5 := hml0
  have hown : s.vm.findClass "com/example/byeonhwa/byeonhwa/WordsUtf8LengthPinLaw" = some m.cls := findClass_of_methodNamed Bd.named
  have hnm := (name_of_methodNamed Bd.named Bd.method).1
  have X0 : Stand p l e room_1 s m #[(.int p1), (.int p2)] below meth c s₁ [] 0 0 := Stand.of_body Bd
  have e0 : s₁.heap = h0 := by rw [← hh, Bd.state]; rfl
  have N0 := Fr.nil n0
  have pre0 : ∀ t, Steps p.tables e below (s₁.setTop (mkF m 0 #[.val (.int p1), .val (.int p2), .unset, .unset, .unset] [])) t → Steps p.tables e below (s₁.setTop (entryFrame m #[(.int p1), (.int p2)] maxLocals)) t := fun t k => castTop (ef_0 m p1 p2) k
  obtain ⟨_, _, ⟨T1, L1, k1, n1⟩, -, X1, ⟨Lc1, hQ1, l1, y1, z1⟩, st1⟩ := Jvm.LawKit.callS X0 hx (y := (⟨"com/example/byeonhwa/byeonhwa/WordsUtf8LengthPinLaw", "maskFor", "(I)I"⟩ : MethodName)) hown (mvT hZ (hw _ (List.mem_of_getElem? (i := 0) rfl))) (mvT hZ (hw _ (List.mem_of_getElem? (i := 1) rfl))) (mvT hZ (hw _ (List.mem_of_getElem? (i := 2) rfl))) (mvT hZ (hw _ (List.mem_of_getElem? (i := 3) rfl))) (by decide) (backOf (W := 1) (rm1 l Z a0 hw [] (p2 &&& (3 : Int32)) h0 n0 Z0) hZ (hw _ (List.mem_of_getElem? (i := 3) rfl)) (hw _ (List.mem_of_getElem? (i := 2) rfl)) (by decide) (by decide)) (g := (mkF m 4 #[.val (.int p1), .val (.int p2), .unset, .unset, .unset] [(.int (p2 &&& (3 : Int32))), (.int p1)])) rfl (by rw [hml]; rfl) (argsL := [(.int (p2 &&& (3 : Int32)))]) (rest := [(.int p1)]) (lenOf pd_0 rfl) rfl (by show 2 * 0 + _ ≤ _; exact Nat.le_of_eq rfl) (hb hby at_4) (fun _ _ => ⟨rfl, e0, (by decide : 0 + 0 ≤ _), (by decide : 0 + 0 ≤ _)⟩)
  dsimp only [Pt.U, Pt.locs, Pt.cells, Pt.slots] at X1 l1 y1 z1 st1 hQ1
  subst l1 y1 z1
  obtain ⟨rfl, N1q, e1⟩ := hQ1
  have N1 := Fr.app N0 N1q
  obtain ⟨_, _, ⟨T2, L2, k2, n2⟩, -, X2, ⟨Lc2, hQ2, l2, y2, z2⟩, st2⟩ := Jvm.LawKit.callS X1 hx (y := (⟨"com/example/byeonhwa/byeonhwa/WordsUtf8LengthPinLaw", "payloadBytes", "(I)I"⟩ : MethodName)) hown (mvT hZ (hw _ (List.mem_of_getElem? (i := 5) rfl))) (mvT hZ (hw _ (List.mem_of_getElem? (i := 6) rfl))) (mvT hZ (hw _ (List.mem_of_getElem? (i := 2) rfl))) (mvT hZ (hw _ (List.mem_of_getElem? (i := 7) rfl))) (by decide) (backOf (W := 0) (rm2 l Z a0 hw [] (p1 &&& (f1 (p2 &&& (3 : Int32)))) h0 n0 Z0) hZ (hw _ (List.mem_of_getElem? (i := 7) rfl)) (hw _ (List.mem_of_getElem? (i := 2) rfl)) (by decide) (by decide)) (g := (mkF m 10 #[.val (.int p1), .val (.int p2), .val (.int (p1 &&& (f1 (p2 &&& (3 : Int32))))), .unset, .unset] [(.int (p1 &&& (f1 (p2 &&& (3 : Int32)))))])) rfl (by rw [hml]; rfl) (argsL := [(.int (p1 &&& (f1 (p2 &&& (3 : Int32)))))]) (rest := []) (lenOf pd_0 rfl) rfl (by show 2 * 0 + _ ≤ _; exact Nat.le_of_eq rfl) (hb hby at_10) (fun _ _ => ⟨rfl, e1, (by decide : 0 + 0 ≤ _), (by decide : 0 + 0 ≤ _)⟩)
  dsimp only [Pt.U, Pt.locs, Pt.cells, Pt.slots] at X2 l2 y2 z2 st2 hQ2
  subst l2 y2 z2
  obtain ⟨rfl, N2q, e2⟩ := hQ2
  have N2 := Fr.app N1 N2q
  obtain ⟨_, _, ⟨T3, L3, k3, n3⟩, -, X3, ⟨Lc3, hQ3, l3, y3, z3⟩, st3⟩ := Jvm.LawKit.callS X2 hx (y := (⟨"com/example/byeonhwa/byeonhwa/Words", "utf8Length", "(I)I"⟩ : MethodName)) hown (mvT hZ (hw _ (List.mem_of_getElem? (i := 8) rfl))) (mvT hZ (hw _ (List.mem_of_getElem? (i := 9) rfl))) (mvT hZ (hw _ (List.mem_of_getElem? (i := 10) rfl))) (mvT hZ (hw _ (List.mem_of_getElem? (i := 11) rfl))) (by decide) (backOf (W := 0) (rm3 l Z a0 hw [] (p1 &&& (f1 (p2 &&& (3 : Int32)))) h0 n0 Z0) hZ (hw _ (List.mem_of_getElem? (i := 11) rfl)) (hw _ (List.mem_of_getElem? (i := 10) rfl)) (by decide) (by decide)) (g := (mkF m 15 #[.val (.int p1), .val (.int p2), .val (.int (p1 &&& (f1 (p2 &&& (3 : Int32))))), .val (.int (f2 (p1 &&& (f1 (p2 &&& (3 : Int32)))))), .unset] [(.int (p1 &&& (f1 (p2 &&& (3 : Int32)))))])) rfl (by rw [hml]; rfl) (argsL := [(.int (p1 &&& (f1 (p2 &&& (3 : Int32)))))]) (rest := []) (lenOf pd_0 rfl) rfl (by show 2 * 0 + _ ≤ _; exact Nat.le_of_eq rfl) (hb hby at_15) (fun _ _ => ⟨rfl, e2, (by decide : 0 + 0 ≤ _), (by decide : 0 + 0 ≤ _)⟩)
  dsimp only [Pt.U, Pt.locs, Pt.cells, Pt.slots] at X3 l3 y3 z3 st3 hQ3
  subst l3 y3 z3
  obtain ⟨rfl, N3q, e3⟩ := hQ3
  have N3 := Fr.app N2 N3q
  have pre4 : ∀ t, Steps p.tables e below (T3.setTop (mkF m 23 #[.val (.int p1), .val (.int p2), .val (.int (p1 &&& (f1 (p2 &&& (3 : Int32))))), .val (.int (f2 (p1 &&& (f1 (p2 &&& (3 : Int32)))))), .val (.int (f3 (p1 &&& (f1 (p2 &&& (3 : Int32))))))] [(.int (f2 (p1 &&& (f1 (p2 &&& (3 : Int32)))))), (.int (f3 (p1 &&& (f1 (p2 &&& (3 : Int32))))))])) t → Steps p.tables e below (s₁.setTop (entryFrame m #[(.int p1), (.int p2)] maxLocals)) t := fun t k => pre0 t (by
    show Steps p.tables e below (s₁.setTop (mkF m 0 #[.val (.int p1), .val (.int p2), .unset, .unset, .unset] [])) _
    refine XS.iloadN X0.here hx rfl (hb hby at_0) rfl ?_
    show Steps p.tables e below (s₁.setTop (mkF m 1 #[.val (.int p1), .val (.int p2), .unset, .unset, .unset] [(.int p1)])) _
    refine XS.iloadN X0.here hx rfl (hb hby at_1) rfl ?_
    show Steps p.tables e below (s₁.setTop (mkF m 2 #[.val (.int p1), .val (.int p2), .unset, .unset, .unset] [(.int p2), (.int p1)])) _
    refine XS.iconst X0.here hx rfl (hb hby at_2) ?_
    show Steps p.tables e below (s₁.setTop (mkF m 3 #[.val (.int p1), .val (.int p2), .unset, .unset, .unset] [(.int (3 : Int32)), (.int p2), (.int p1)])) _
    refine XS.iand X0.here hx rfl (hb hby at_3) rfl ?_
    show Steps p.tables e below (s₁.setTop (mkF m 4 #[.val (.int p1), .val (.int p2), .unset, .unset, .unset] [(.int (p2 &&& (3 : Int32))), (.int p1)])) _
    refine st1 _ ?_
    show Steps p.tables e below (T1.setTop (mkF m 7 #[.val (.int p1), .val (.int p2), .unset, .unset, .unset] [(.int (f1 (p2 &&& (3 : Int32)))), (.int p1)])) _
    refine XS.iand X1.here hx rfl (hb hby at_7) rfl ?_
    show Steps p.tables e below (T1.setTop (mkF m 8 #[.val (.int p1), .val (.int p2), .unset, .unset, .unset] [(.int (p1 &&& (f1 (p2 &&& (3 : Int32)))))])) _
    refine XS.istoreN X1.here hx rfl (hb hby at_8) rfl (l' := #[.val (.int p1), .val (.int p2), .val (.int (p1 &&& (f1 (p2 &&& (3 : Int32))))), .unset, .unset]) rfl ?_
    show Steps p.tables e below (T1.setTop (mkF m 9 #[.val (.int p1), .val (.int p2), .val (.int (p1 &&& (f1 (p2 &&& (3 : Int32))))), .unset, .unset] [])) _
    refine XS.iloadN X1.here hx rfl (hb hby at_9) rfl ?_
    show Steps p.tables e below (T1.setTop (mkF m 10 #[.val (.int p1), .val (.int p2), .val (.int (p1 &&& (f1 (p2 &&& (3 : Int32))))), .unset, .unset] [(.int (p1 &&& (f1 (p2 &&& (3 : Int32)))))])) _
    refine st2 _ ?_
    show Steps p.tables e below (T2.setTop (mkF m 13 #[.val (.int p1), .val (.int p2), .val (.int (p1 &&& (f1 (p2 &&& (3 : Int32))))), .unset, .unset] [(.int (f2 (p1 &&& (f1 (p2 &&& (3 : Int32))))))])) _
    refine XS.istoreN X2.here hx rfl (hb hby at_13) rfl (l' := #[.val (.int p1), .val (.int p2), .val (.int (p1 &&& (f1 (p2 &&& (3 : Int32))))), .val (.int (f2 (p1 &&& (f1 (p2 &&& (3 : Int32)))))), .unset]) rfl ?_
    show Steps p.tables e below (T2.setTop (mkF m 14 #[.val (.int p1), .val (.int p2), .val (.int (p1 &&& (f1 (p2 &&& (3 : Int32))))), .val (.int (f2 (p1 &&& (f1 (p2 &&& (3 : Int32)))))), .unset] [])) _
    refine XS.iloadN X2.here hx rfl (hb hby at_14) rfl ?_
    show Steps p.tables e below (T2.setTop (mkF m 15 #[.val (.int p1), .val (.int p2), .val (.int (p1 &&& (f1 (p2 &&& (3 : Int32))))), .val (.int (f2 (p1 &&& (f1 (p2 &&& (3 : Int32)))))), .unset] [(.int (p1 &&& (f1 (p2 &&& (3 : Int32)))))])) _
    refine st3 _ ?_
    show Steps p.tables e below (T3.setTop (mkF m 18 #[.val (.int p1), .val (.int p2), .val (.int (p1 &&& (f1 (p2 &&& (3 : Int32))))), .val (.int (f2 (p1 &&& (f1 (p2 &&& (3 : Int32)))))), .unset] [(.int (f3 (p1 &&& (f1 (p2 &&& (3 : Int32))))))])) _
    refine XS.istore X3.here hx rfl (hb hby at_18) rfl (l' := #[.val (.int p1), .val (.int p2), .val (.int (p1 &&& (f1 (p2 &&& (3 : Int32))))), .val (.int (f2 (p1 &&& (f1 (p2 &&& (3 : Int32)))))), .val (.int (f3 (p1 &&& (f1 (p2 &&& (3 : Int32))))))]) rfl ?_
    show Steps p.tables e below (T3.setTop (mkF m 20 #[.val (.int p1), .val (.int p2), .val (.int (p1 &&& (f1 (p2 &&& (3 : Int32))))), .val (.int (f2 (p1 &&& (f1 (p2 &&& (3 : Int32)))))), .val (.int (f3 (p1 &&& (f1 (p2 &&& (3 : Int32))))))] [])) _
    refine XS.iload X3.here hx rfl (hb hby at_20) rfl ?_
    show Steps p.tables e below (T3.setTop (mkF m 22 #[.val (.int p1), .val (.int p2), .val (.int (p1 &&& (f1 (p2 &&& (3 : Int32))))), .val (.int (f2 (p1 &&& (f1 (p2 &&& (3 : Int32)))))), .val (.int (f3 (p1 &&& (f1 (p2 &&& (3 : Int32))))))] [(.int (f3 (p1 &&& (f1 (p2 &&& (3 : Int32))))))])) _
    refine XS.iloadN X3.here hx rfl (hb hby at_22) rfl ?_
    exact k)
  by_cases hc5 : (f3 (p1 &&& (f1 (p2 &&& (3 : Int32))))) = (f2 (p1 &&& (f1 (p2 &&& (3 : Int32)))))
  · obtain ⟨fs, hr, hrun, hended, hW, hsame⟩ := X3.leave (v := some (.int (1 : Int32))) (fun h => by rw [Bd.returns] at h; cases h)
    refine ⟨_, _, pre4 _ ?_, hrun, hended, _, _, rfl, ?_, ⟨_, rfl⟩, hW, hsame.mono (by decide) (by decide)⟩
    · show Steps p.tables e below (T3.setTop (mkF m 23 #[.val (.int p1), .val (.int p2), .val (.int (p1 &&& (f1 (p2 &&& (3 : Int32))))), .val (.int (f2 (p1 &&& (f1 (p2 &&& (3 : Int32)))))), .val (.int (f3 (p1 &&& (f1 (p2 &&& (3 : Int32))))))] [(.int (f2 (p1 &&& (f1 (p2 &&& (3 : Int32)))))), (.int (f3 (p1 &&& (f1 (p2 &&& (3 : Int32))))))])) _
      refine XS.icmpNo X3.here hx rfl (hb hby at_23) rfl (teq hc5).2 ?_
      show Steps p.tables e below (T3.setTop (mkF m 26 #[.val (.int p1), .val (.int p2), .val (.int (p1 &&& (f1 (p2 &&& (3 : Int32))))), .val (.int (f2 (p1 &&& (f1 (p2 &&& (3 : Int32)))))), .val (.int (f3 (p1 &&& (f1 (p2 &&& (3 : Int32))))))] [])) _
      refine XS.iconst X3.here hx rfl (hb hby at_26) ?_
      show Steps p.tables e below (T3.setTop (mkF m 27 #[.val (.int p1), .val (.int p2), .val (.int (p1 &&& (f1 (p2 &&& (3 : Int32))))), .val (.int (f2 (p1 &&& (f1 (p2 &&& (3 : Int32)))))), .val (.int (f3 (p1 &&& (f1 (p2 &&& (3 : Int32))))))] [(.int (1 : Int32))])) _
      refine XS.goto X3.here hx rfl (pc0 := 27) (pc' := 31) rfl (hb hby at_27) (by decide) (by decide) ?_
      show Steps p.tables e below (T3.setTop (mkF m 31 #[.val (.int p1), .val (.int p2), .val (.int (p1 &&& (f1 (p2 &&& (3 : Int32))))), .val (.int (f2 (p1 &&& (f1 (p2 &&& (3 : Int32)))))), .val (.int (f3 (p1 &&& (f1 (p2 &&& (3 : Int32))))))] [(.int (1 : Int32))])) _
      exact retN X3 hx (t := .boolean) Bd.returns (by simp) (hb hby at_31) hr
    · show Q0 Z p1 p2 h0 n0 _ T3.heap _
      rw [e3]
      exact ⟨by rw [show (f0 p1 p2) = (1 : Int32) from by first | rfl | (rw [f0, if_pos hc5]) | (simp only [f0, if_pos hc5])], N3⟩
  · obtain ⟨fs, hr, hrun, hended, hW, hsame⟩ := X3.leave (v := some (.int (0 : Int32))) (fun h => by rw [Bd.returns] at h; cases h)
    refine ⟨_, _, pre4 _ ?_, hrun, hended, _, _, rfl, ?_, ⟨_, rfl⟩, hW, hsame.mono (by decide) (by decide)⟩
    · show Steps p.tables e below (T3.setTop (mkF m 23 #[.val (.int p1), .val (.int p2), .val (.int (p1 &&& (f1 (p2 &&& (3 : Int32))))), .val (.int (f2 (p1 &&& (f1 (p2 &&& (3 : Int32)))))), .val (.int (f3 (p1 &&& (f1 (p2 &&& (3 : Int32))))))] [(.int (f2 (p1 &&& (f1 (p2 &&& (3 : Int32)))))), (.int (f3 (p1 &&& (f1 (p2 &&& (3 : Int32))))))])) _
      refine XS.icmpYes X3.here hx rfl (pc0 := 23) (pc' := 30) rfl (hb hby at_23) rfl (feq hc5).2 (by decide) (by decide) ?_
      show Steps p.tables e below (T3.setTop (mkF m 30 #[.val (.int p1), .val (.int p2), .val (.int (p1 &&& (f1 (p2 &&& (3 : Int32))))), .val (.int (f2 (p1 &&& (f1 (p2 &&& (3 : Int32)))))), .val (.int (f3 (p1 &&& (f1 (p2 &&& (3 : Int32))))))] [])) _
      refine XS.iconst X3.here hx rfl (hb hby at_30) ?_
      show Steps p.tables e below (T3.setTop (mkF m 31 #[.val (.int p1), .val (.int p2), .val (.int (p1 &&& (f1 (p2 &&& (3 : Int32))))), .val (.int (f2 (p1 &&& (f1 (p2 &&& (3 : Int32)))))), .val (.int (f3 (p1 &&& (f1 (p2 &&& (3 : Int32))))))] [(.int (0 : Int32))])) _
      exact retN X3 hx (t := .boolean) Bd.returns (by simp) (hb hby at_31) hr
    · show Q0 Z p1 p2 h0 n0 _ T3.heap _
      rw [e3]
      exact ⟨by rw [show (f0 p1 p2) = (0 : Int32) from by first | rfl | (rw [f0, if_neg hc5]) | (simp only [f0, if_neg hc5])], N3⟩

theorem own_rng (x k : Int32) : 0 ≤ (x &&& f1 k).toInt ∧ (x &&& f1 k).toInt < 2097152 := by
  rw [f1]
  split
  · rw [Jvm.Kit.i32_mask x 127 (k := 7) (by decide) (by decide)]; omega
  · split
    · rw [Jvm.Kit.i32_mask x 2047 (k := 11) (by decide) (by decide)]; omega
    · split
      · rw [Jvm.Kit.i32_mask x 65535 (k := 16) (by decide) (by decide)]; omega
      · rw [Jvm.Kit.i32_mask x 2097151 (k := 21) (by decide) (by decide)]; omega
theorem own_eq (c : Int32) (h0 : 0 ≤ c.toInt) (h1 : c.toInt < 2097152) : f3 c = f2 c := by
  have hc : 0 ≤ c := Jvm.Kit.i32_nonneg.mpr h0
  have e7 : ((c.toUInt32 >>> ((7 : Int32) &&& 31).toUInt32).toInt32) = 0 ↔ c < 128 := by
    rw [← Int32.toInt_inj, Jvm.Kit.i32_iushr hc (k := 7) (by decide) (by decide), Int32.lt_iff_toInt_lt, show (0 : Int32).toInt = 0 from rfl, show (128 : Int32).toInt = 128 from rfl]; omega
  have e11 : ((c.toUInt32 >>> ((11 : Int32) &&& 31).toUInt32).toInt32) = 0 ↔ c < 2048 := by
    rw [← Int32.toInt_inj, Jvm.Kit.i32_iushr hc (k := 11) (by decide) (by decide), Int32.lt_iff_toInt_lt, show (0 : Int32).toInt = 0 from rfl, show (2048 : Int32).toInt = 2048 from rfl]; omega
  have e16 : ((c.toUInt32 >>> ((16 : Int32) &&& 31).toUInt32).toInt32) = 0 ↔ c < 65536 := by
    rw [← Int32.toInt_inj, Jvm.Kit.i32_iushr hc (k := 16) (by decide) (by decide), Int32.lt_iff_toInt_lt, show (0 : Int32).toInt = 0 from rfl, show (65536 : Int32).toInt = 65536 from rfl]; omega
  simp only [f3, m3_2_0, f2, e7, e11, e16]
theorem own_main (p1 p2 : Int32) : f0 p1 p2 = 1 := by
  have h := own_rng p1 (p2 &&& 3)
  rw [f0, if_pos (own_eq _ h.1 h.2)]

set_option maxRecDepth 65536 in
set_option maxHeartbeats 40000000 in
theorem comes_1 {Post : Tables → Env → Array Value → State → Outcome → State → Prop} (hpost : ∀ tb e args s v u, (limb_1_1.after args s (.returned v) u = true ∧ limb_1_2.after args s (.returned v) u = true ∧ True) → FrameEnd s (.returned v) u (Jvm.fieldLocs frame_1_writes args s ++ Jvm.arrayLocs frame_1_arrays args s ++ Jvm.staticLocs frame_1_statics s) 0 0 → Post tb e args s (.returned v) u) :
    ArmFor flags0 classFile x code maxLocals ret World_1 tables_1 room_1 Calls_1 rest_1 Pre_1 Post := by
  intro l hfl _ _ p e ha hc hk s m args below hf hA hF happ hP
  obtain ⟨hcalls, hrest, hpre⟩ := hP
  obtain ⟨-, -, -, hnamed, -, -, -, hat⟩ := (Spec.applies_iff hf).mp happ
  obtain ⟨hg, hn⟩ := and_e (Cond.before_iff.mp (show (Jvm.Cond.and given_1 narrow_1).before args s = true from hpre))
  obtain ⟨g1, g2⟩ := and_e hg
  obtain ⟨g3, g4⟩ := and_e g2
  obtain ⟨w0, w1, rfl⟩ : ∃ w0 w1 : Value, args = #[w0, w1] := by
    have hs : args.size = 2 := by simpa [Cond.value, given_1] using g1
    obtain ⟨L⟩ := args
    match L, hs with
    | [w0, w1], _ => exact ⟨w0, w1, rfl⟩
  have hw := fun d (hd : d ∈ tables_1) => atoms_spec (ws := Jvm.Cond.code x code maxLocals ret :: tables_1) hat d (List.mem_cons_of_mem _ hd)
  have hfit : Fit s := fun {y c} hc i hi => by
    obtain ⟨ha, rfl⟩ := Array.getElem?_eq_some_iff.mp hc
    have q := List.all_eq_true.mp ((Array.all_eq_true_iff_forall_mem.mp hF) _ (Array.getElem_mem ha)) i (List.mem_range.mpr hi)
    simpa [Array.getElem?_eq_getElem hi] using q
  obtain ⟨i0, ei0⟩ := is_v g3
  obtain rfl : w0 = (.int i0) := Option.some.inj ei0
  obtain ⟨i1, ei1⟩ := is_v g4
  obtain rfl : w1 = (.int i1) := Option.some.inj ei1
  obtain ⟨n, o, h1, h2, h3, _, L, rfl, ⟨rfl, N⟩, hq⟩ := rm0 l s _ hw tables_1 i0 i1 s.heap s.heap.size (Nat.le_refl _) p e ha hc hk s m _ below hf ((Spec.applies_iff_loose hf).mp happ).1 ⟨rfl, State.Warmed39.refl s, rfl⟩ trivial
  refine ⟨n, _, h1, h2, h3, hpost _ _ _ _ _ _ ⟨Cond.after_iff.mpr rfl, Cond.after_iff.mpr (eq_i res_at (Term.int_eval (1)) (congrArg Value.int (own_main i0 i1))), trivial⟩ ⟨hq.1, hq.2.1, (hq.2.2.sift fun y hy => Or.inr (N y hy)).mono (by decide) (by decide)⟩⟩
theorem main_1_1 : Claimed_1_1 := comes_1 fun _ _ _ _ _ _ h hF => ⟨h.1, hF⟩
theorem main_1_2 : Claimed_1_2 := comes_1 fun _ _ _ _ _ _ h hF => ⟨h.2.1, hF⟩
end Jvm.Pilot.@@N@@
namespace Jvm.Pilot.@@N@@
open Jvm Jvm.ClassFile Sem Op Lib Jvm.Free Jvm.Stand Jvm.Pilot.@@N@@.Jvm.D
/-! MADE BY PROGRAM (witnessworld.py) out of the Statement's table words and the real class files: 7 classes; the members and pool entries that the words name. The judged class is class 1, her method 3. -/
namespace start1
open Jvm.ClassFile
def u (s : String) : CpInfo := .utf8 (stringToUtf16 s)
/-- a pool by its gaps: so many unusable entries, then the entry; so many at the end -/
def gap : Nat → List CpInfo → List CpInfo
  | 0, r => r
  | n + 1, r => .unusable :: gap n r
def poolList (es : List (Nat × CpInfo)) (last : Nat) : List CpInfo := es.foldr (fun e r => gap e.1 (e.2 :: r)) (gap last [])
def pool (es : List (Nat × CpInfo)) (last : Nat) : Array CpInfo := ⟨poolList es last⟩
def fileOf (pool : Array CpInfo) (this : Nat) (attrs : Array Attribute := #[]) (ms : Array MethodInfo := #[]) (fl : Nat := 33) (sup : Nat := 0) (ifs : Array Nat := #[]) (fds : Array FieldInfo := #[]) : ClassFile where
  minorVersion := 0
  majorVersion := 65
  constantPool := pool
  accessFlags := fl
  thisClass := this
  superClass := sup
  interfaces := ifs
  fields := fds
  methods := ms
  attributes := attrs
def plain (name : String) (sup : Option ClassId) : Class where
  name := name
  kind := .ordinary
  loader := none
  accessFlags := 33
  super := sup
  interfaces := #[]
  cf := none
  fields := #[]
  methods := #[]
  instanceTypes := #[]
  staticTypes := #[]
  resolved := #[]
  callSites := []
  init := .initialized
  statics := none
  mirror := none

def pool0 : Array CpInfo := pool [(5, u "<init>"), (0, u "()V"), (1, .class_ 10), (1, u "java/lang/Object")] 113

def k0m0 : Method := { name := "<init>", desc := "()V", sig := { parameters := [], returnType := none }, accessFlags := 1, code := none }
/-- java/lang/Object -/
def k0 : Class := { plain "java/lang/Object" none with
  accessFlags := 33
  interfaces := #[]
  cf := some (fileOf pool0 8 #[] #[{ accessFlags := 1, nameIndex := 5, descriptorIndex := 6, attributes := #[] }] 33 0 #[] #[])
  fields := #[]
  methods := #[k0m0]
  instanceTypes := #[]
  staticTypes := #[]
  resolved := Array.replicate 124 none
  statics := none }

def pool1 : Array CpInfo := pool [(2, .class_ 4), (1, u "java/lang/Object"), (0, u "<init>"), (0, u "()V"), (0, .integer 65535), (0, .integer 2097151), (0, .methodref 10 11), (0, .class_ 12), (0, .nameAndType 13 14), (0, u "com/example/byeonhwa/byeonhwa/WordsUtf8LengthPinLaw"), (0, u "maskFor"), (0, u "(I)I"), (0, .methodref 10 16), (0, .nameAndType 17 14), (0, u "payloadBytes"), (0, .methodref 19 20), (0, .class_ 21), (0, .nameAndType 22 14), (0, u "com/example/byeonhwa/byeonhwa/Words"), (0, u "utf8Length"), (3, u "law"), (0, u "(II)Z")] 2

def k1m0 : Method := { name := "<init>", desc := "()V", sig := { parameters := [], returnType := none }, accessFlags := 2, code := none }
def k1c1 : Code := { maxStack := 2, maxLocals := 1, code := method_2_code, exceptionTable := #[], attributes := #[] }
def k1m1 : Method := { name := "maskFor", desc := "(I)I", sig := { parameters := [.int], returnType := some .int }, accessFlags := 10, code := some k1c1 }
def k1c2 : Code := { maxStack := 2, maxLocals := 1, code := method_3_code, exceptionTable := #[], attributes := #[] }
def k1m2 : Method := { name := "payloadBytes", desc := "(I)I", sig := { parameters := [.int], returnType := some .int }, accessFlags := 10, code := some k1c2 }
def k1c3 : Code := { maxStack := 3, maxLocals := 5, code := code, exceptionTable := #[], attributes := #[] }
def k1m3 : Method := { name := "law", desc := "(II)Z", sig := { parameters := [.int, .int], returnType := some .boolean }, accessFlags := 9, code := some k1c3 }
/-- com/example/byeonhwa/byeonhwa/WordsUtf8LengthPinLaw -/
def k1 : Class := { plain "com/example/byeonhwa/byeonhwa/WordsUtf8LengthPinLaw" (some 0) with
  accessFlags := 49
  interfaces := #[]
  cf := some (fileOf pool1 10 #[] #[{ accessFlags := 2, nameIndex := 5, descriptorIndex := 6, attributes := #[] }, { accessFlags := 10, nameIndex := 13, descriptorIndex := 14, attributes := #[] }, { accessFlags := 10, nameIndex := 17, descriptorIndex := 14, attributes := #[] }, { accessFlags := 9, nameIndex := 26, descriptorIndex := 27, attributes := #[] }] 49 2 #[] #[])
  fields := #[]
  methods := #[k1m0, k1m1, k1m2, k1m3]
  instanceTypes := #[]
  staticTypes := #[]
  resolved := Array.replicate 30 none
  statics := none }

def pool2 : Array CpInfo := pool [(4, .class_ 6), (1, u "java/lang/Object"), (0, u "<init>"), (0, u "()V"), (20, .class_ 31), (1, u "com/example/byeonhwa/byeonhwa/Words"), (0, u "ASCII_IN_WORDS"), (0, u "[Z"), (3, u "(I)I"), (28, u "utf8Length"), (0, .integer 65536), (8, u "WORD_CATEGORIES"), (0, u "I"), (14, .class_ 93), (0, u "com/example/byeonhwa/byeonhwa/Words$Utf8Walk")] 2

def k2m0 : Method := { name := "<init>", desc := "()V", sig := { parameters := [], returnType := none }, accessFlags := 2, code := none }
def k2c1 : Code := { maxStack := 2, maxLocals := 2, code := prog_66_method_4_code, exceptionTable := #[], attributes := #[] }
def k2m1 : Method := { name := "utf8Length", desc := "(I)I", sig := { parameters := [.int], returnType := some .int }, accessFlags := 8, code := some k2c1 }
/-- com/example/byeonhwa/byeonhwa/Words -/
def k2 : Class := { plain "com/example/byeonhwa/byeonhwa/Words" (some 0) with
  accessFlags := 33
  interfaces := #[]
  cf := some (fileOf pool2 29 #[.nestMembers #[92]] #[{ accessFlags := 2, nameIndex := 7, descriptorIndex := 8, attributes := #[] }, { accessFlags := 8, nameIndex := 66, descriptorIndex := 37, attributes := #[] }] 33 4 #[] #[{ accessFlags := 26, nameIndex := 76, descriptorIndex := 77, attributes := #[] }, { accessFlags := 26, nameIndex := 32, descriptorIndex := 33, attributes := #[] }])
  fields := #[{ name := "WORD_CATEGORIES", type := .int, accessFlags := 26, slot := 0, constantValue := 0 }, { name := "ASCII_IN_WORDS", type := (.array .boolean), accessFlags := 26, slot := 1, constantValue := 0 }]
  methods := #[k2m0, k2m1]
  instanceTypes := #[]
  staticTypes := #[.int, (.array .boolean)]
  resolved := Array.replicate 96 none
  statics := none }

def pool3 : Array CpInfo := pool [(1, u "java/lang/Cloneable"), (0, .class_ 1), (0, u "java/lang/Object"), (0, .class_ 3)] 3

/-- java/lang/Cloneable -/
def k3 : Class := { plain "java/lang/Cloneable" (some 0) with
  accessFlags := 1537
  interfaces := #[]
  cf := some (fileOf pool3 2 #[] #[] 1537 4 #[] #[])
  fields := #[]
  methods := #[]
  instanceTypes := #[]
  staticTypes := #[]
  resolved := Array.replicate 8 none
  statics := none }

def pool4 : Array CpInfo := pool [(1, u "java/io/Serializable"), (0, .class_ 1), (0, u "java/lang/Object"), (0, .class_ 3)] 3

/-- java/io/Serializable -/
def k4 : Class := { plain "java/io/Serializable" (some 0) with
  accessFlags := 1537
  interfaces := #[]
  cf := some (fileOf pool4 2 #[] #[] 1537 4 #[] #[])
  fields := #[]
  methods := #[]
  instanceTypes := #[]
  staticTypes := #[]
  resolved := Array.replicate 8 none
  statics := none }

/-- the primitive byte -/
def k5 : Class := { plain "byte" none with kind := .primitive 'B', accessFlags := 0x411 }
/-- [B -/
def k6 : Class := { plain "[B" (some 0) with kind := .array 5 .byte, interfaces := #[3, 4], accessFlags := 1041 }

def heap : Heap := #[]
def classes : Array Class := #[k0, k1, k2, k3, k4, k5, k6]
def interned : List (Array UInt16 × Addr) := []
def slotsUsed : Nat := 0
def theMethod : MethodId := ⟨1, 3⟩
def args0 : Array Value := #[.int 5, .int 6]
def aboutOver (below : List Frame) : State where
  vm := { classes := classes, interned := interned.toArray }
  heap := heap
  slotsUsed := slotsUsed
  threads := #[{ frames := .invoking theMethod args0 :: below }]
def below0 : List Frame := [.native { method := ⟨0, 0⟩, args := #[] }]
def about1 : State := aboutOver below0
def p0 : Program := .bare "" "" ""
def e0 : Env := launch0.env 0 0 0
theorem w_frames : about1.frames = Frame.invoking theMethod args0 :: below0 := rfl
set_option maxRecDepth 65536 in
theorem w_args : argsFit about1.vm theMethod args0 = true := by decide +kernel
set_option maxRecDepth 65536 in
theorem w_heap : heapFits about1 = true := by decide +kernel
set_option maxRecDepth 65536 in
theorem w_runnable : about1.curStatus? = some .runnable := by decide +kernel
set_option maxRecDepth 65536 in
theorem w_alone : about1.alone = true := by decide +kernel
set_option maxRecDepth 65536 in
theorem w_named : about1.methodNamed? x = some theMethod := by decide +kernel
set_option maxRecDepth 65536 in
theorem w_hears : about1.hears theMethod below0 = true := by decide +kernel
set_option maxRecDepth 65536 in
theorem w_ripe : about1.ripe theMethod args0 below0 = true := by decide +kernel
theorem w_running : about1.status = .running := rfl
set_option maxRecDepth 65536 in
theorem w_room : about1.hasRoom e0.platform room_1 = true :=
  launch0.hasRoom_least _ room_1 (by decide +kernel) (by decide +kernel) (by decide +kernel) (by decide +kernel) (by decide +kernel) (by decide +kernel)
theorem allAtoms_all (ts : List Jvm.Cond) (a : Array Jvm.Value) (st : Jvm.State) : (allAtoms ts).before a st = ts.all (fun c => c.before a st) := by
  induction ts with
  | nil => rfl
  | cons c t ih =>
    show (Jvm.Cond.and c (allAtoms t)).before a st = _
    rw [Jvm.Cond.before_and, ih, List.all_cons]
def words1 : List Jvm.Cond := Jvm.Cond.code x code maxLocals ret :: tables_1
/-- a 'code' word, met by the world's own term for the bytes: nothing is compared byte by byte -/
theorem code_word {y : MethodName} {bytes : ByteArray} {mx : Nat} {rt : Option FieldType} {a : Array Value} {s : State} {m : MethodId} {meth : Method} {c : Code} (h1 : s.methodNamed? y = some m) (h2 : s.vm.method? m = some meth) (h3 : meth.code = some c) (h4 : c.code = bytes)
    (h5 : (c.maxLocals == mx && c.exceptionTable.isEmpty && decide (c.maxStack ≤ mostOperands) && decide (meth.sig.returnType = rt) && !meth.locks && decide (parseMethodDescriptor y.desc = some meth.sig)) = true) : (Jvm.Cond.code y bytes mx rt).before a s = true := by
  simp only [Bool.and_eq_true, beq_iff_eq, Bool.not_eq_true', decide_eq_true_eq] at h5
  obtain ⟨⟨⟨⟨⟨g1, g2⟩, g3⟩, g4⟩, g5⟩, g6⟩ := h5
  simp [Cond.before, Cond.holds, Cond.value, h1, h2, h3, h4, g1, g2, g3, g4, g5, g6]
def isCode : Jvm.Cond → Bool
  | .code _ _ _ _ => true
  | _ => false
theorem all_split {L : List Jvm.Cond} {P : Jvm.Cond → Bool} (h1 : L.all (fun c => isCode c || P c) = true) (h2 : ∀ c ∈ L.filter isCode, P c = true) : L.all P = true := by
  refine List.all_eq_true.mpr fun c hc => ?_
  have h := List.all_eq_true.mp h1 c hc
  rcases Bool.eq_false_or_eq_true (isCode c) with hi | hi
  · exact h2 c (List.mem_filter.mpr ⟨hc, hi⟩)
  · simpa [hi] using h
set_option maxRecDepth 65536 in
theorem w_c0 : (Jvm.Cond.code x code maxLocals ret).before args0 about1 = true := code_word (m := ⟨1, 3⟩) (meth := k1m3) (c := k1c3) (by decide +kernel) rfl rfl rfl (by decide +kernel)
set_option maxRecDepth 65536 in
theorem w_c1 : (Jvm.Cond.code ({ cls := "com/example/byeonhwa/byeonhwa/WordsUtf8LengthPinLaw", name := "maskFor", desc := "(I)I" } : Jvm.MethodName) method_2_code (1 : Nat) (Option.some Jvm.ClassFile.FieldType.int)).before args0 about1 = true := code_word (m := ⟨1, 1⟩) (meth := k1m1) (c := k1c1) (by decide +kernel) rfl rfl rfl (by decide +kernel)
set_option maxRecDepth 65536 in
theorem w_c2 : (Jvm.Cond.code ({ cls := "com/example/byeonhwa/byeonhwa/WordsUtf8LengthPinLaw", name := "payloadBytes", desc := "(I)I" } : Jvm.MethodName) method_3_code (1 : Nat) (Option.some Jvm.ClassFile.FieldType.int)).before args0 about1 = true := code_word (m := ⟨1, 2⟩) (meth := k1m2) (c := k1c2) (by decide +kernel) rfl rfl rfl (by decide +kernel)
set_option maxRecDepth 65536 in
theorem w_c3 : (Jvm.Cond.code ({ cls := "com/example/byeonhwa/byeonhwa/Words", name := "utf8Length", desc := "(I)I" } : Jvm.MethodName) prog_66_method_4_code (2 : Nat) (Option.some Jvm.ClassFile.FieldType.int)).before args0 about1 = true := code_word (m := ⟨2, 1⟩) (meth := k2m1) (c := k2c1) (by decide +kernel) rfl rfl rfl (by decide +kernel)
def codes1 : List Jvm.Cond := [Jvm.Cond.code x code maxLocals ret, Jvm.Cond.code ({ cls := "com/example/byeonhwa/byeonhwa/WordsUtf8LengthPinLaw", name := "maskFor", desc := "(I)I" } : Jvm.MethodName) method_2_code (1 : Nat) (Option.some Jvm.ClassFile.FieldType.int), Jvm.Cond.code ({ cls := "com/example/byeonhwa/byeonhwa/WordsUtf8LengthPinLaw", name := "payloadBytes", desc := "(I)I" } : Jvm.MethodName) method_3_code (1 : Nat) (Option.some Jvm.ClassFile.FieldType.int), Jvm.Cond.code ({ cls := "com/example/byeonhwa/byeonhwa/Words", name := "utf8Length", desc := "(I)I" } : Jvm.MethodName) prog_66_method_4_code (2 : Nat) (Option.some Jvm.ClassFile.FieldType.int)]
set_option maxRecDepth 65536 in
theorem codes_eq : words1.filter isCode = codes1 := rfl
theorem w_codes : ∀ c ∈ words1.filter isCode, c.before args0 about1 = true := by
  rw [codes_eq]
  intro c hc
  simp only [codes1, List.mem_cons, List.not_mem_nil, or_false] at hc
  rcases hc with rfl | rfl | rfl | rfl
  · exact w_c0
  · exact w_c1
  · exact w_c2
  · exact w_c3
set_option maxRecDepth 65536 in
theorem w_t1 : words1.all (fun c => isCode c || c.before args0 about1) = true := by decide +kernel
theorem w_tables : (allAtoms (Jvm.Cond.code x code maxLocals ret :: tables_1)).before args0 about1 = true := by
  rw [allAtoms_all]
  show words1.all (fun c => c.before args0 about1) = true
  refine all_split ?_ w_codes
  rw [w_t1]
set_option maxRecDepth 65536 in
theorem w_case : (Jvm.Cond.and given_1 narrow_1).before args0 about1 = true := by decide +kernel
theorem w_applies : (headSpec (Jvm.Cond.code x code maxLocals ret :: tables_1) room_1).applies x e0.platform about1 = true :=
  (Spec.applies_iff w_frames).mpr ⟨w_running, w_runnable, w_alone, w_named, w_hears, w_ripe, w_room, w_tables⟩
theorem atStart : AtStart classFile x code maxLocals ret World_1 tables_1 room_1 Calls_1 rest_1 Pre_1 launch0 p0 e0 about1 theMethod args0 below0 :=
  ⟨lists_1, trivial, launch0.admits_env _ _ _, launch0.least_env, fairChoices_fair.cas, fairChoices_fair.clock, w_frames, w_args, w_heap, w_applies, trivial, trivial, w_case⟩
end start1
theorem witness_1 : WitnessClaimed_1 := ⟨start1.p0, start1.e0, start1.about1, start1.theMethod, start1.args0, start1.below0, start1.atStart⟩
end Jvm.Pilot.@@N@@

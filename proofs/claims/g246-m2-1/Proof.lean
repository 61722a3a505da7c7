import JvmDerived
import JvmDerived.Pilot.@@N@@Statement
import JvmDerived.Pilot.@@N@@Code
set_option linter.unusedVariables false
set_option linter.unusedSimpArgs false
@@BLOCK:NumsL.lean.txt@@
namespace Jvm.RoadKit
open Sem ClassFile Op Lib Jvm.Stand Jvm.Free Jvm.LawKit
section New
variable {p : Program} {l : Launch} {e : Env} {R : Room} {s : State} {m : MethodId} {args : Array Value} {below : List Frame} {meth : Method} {c : Code} {T : State} {locs : List Loc} {cells slots : Nat}
theorem retI (X : Stand p l e R s m args below meth c T locs cells slots) (hx : p.tables.exec = Jvm.exec) {pc : Nat} {Ls : Array Slot} {z : Int32} {rest : List Value} (hret : meth.sig.returnType = some .int) (hd : decode c.code pc = .ok (.ireturn, 1)) {fs : List Frame}
    (hl : ∀ (f : JFrame) (acts : List Action), f.method = m → f.locked = none → f.entered = [] → (doReturn e (T.setTop f) acts (some (.int z))).1 = T.setFrames fs) : Steps p.tables e below (T.setTop (mkF m pc Ls (.int z :: rest))) (T.setFrames fs) := by
  have hm' : T.vm.method? m = some meth := X.method'
  have hn : narrow .int (.int z) = .int z := rfl
  show Steps p.tables e below (T.setTop { method := m, pc := pc, locals := Ls, stack := _ :: rest, locked := none }) _
  jvm_step X.here [X.here.top, hx, hd, hm', hret, hn]
  first | (intro acts; rw [hl _ acts rfl rfl rfl]) | rw [hl _ _ rfl rfl rfl]
  exact Steps.refl _
end New
end Jvm.RoadKit
namespace Jvm.Pilot.@@N@@
open Jvm Jvm.ClassFile Sem Op Lib Jvm.Free Jvm.Stand Jvm.LawKit Jvm.RoadKit Bundle Jvm.Pilot.@@N@@.Jvm.D


theorem own_fi {args : Array Value} {s : State} {t : Term} {a : Addr} {C n d : String} {k : Int32} (ev : t.eval args s none [] s = some (.ref a)) (h : (Cond.eq (.field t C n d) (.int k)).value args s none s [] = some true) : Fld s s.heap a C n d (.int k) := by
  obtain ⟨x, y, e1, e2, k1, k2⟩ := cmp_v (Or.inl h)
  obtain rfl : y = .int k := Option.some.inj (e2.symm.trans (Term.int_eval k))
  obtain ⟨z, rfl⟩ := k2
  have q := gotT (Cond.eq_ints e1 e2) h
  subst q
  exact Fld.start ((fld_at ev).symm.trans e1)
theorem own_fr {args : Array Value} {s : State} {t u : Term} {a b : Addr} {C n d : String} (ev : t.eval args s none [] s = some (.ref a)) (eu : u.eval args s none [] s = some (.ref b)) (h : (Cond.eq (.field t C n d) u).value args s none s [] = some true) : Fld s s.heap a C n d (.ref b) := by
  obtain ⟨x, y, e1, e2, k1, k2⟩ := cmp_v (Or.inl h)
  obtain rfl : y = .ref b := Option.some.inj (e2.symm.trans eu)
  have q := gotT (eq_R e1 e2 k2.2 rfl) h
  subst q
  exact Fld.start ((fld_at ev).symm.trans e1)
theorem own_fa {args : Array Value} {s : State} {t : Term} {a b : Addr} {C n d : String} (ev : t.eval args s none [] s = some (.ref a)) (eu : (Term.field t C n d).eval args s none [] s = some (.ref b)) : Fld s s.heap a C n d (.ref b) := Fld.start ((fld_at ev).symm.trans eu)

theorem d1_0 : decode prog_5_method_4_code 0 = .ok (.iload_n 1, 1) := by decide +kernel
theorem d1_1 : decode prog_5_method_4_code 1 = .ok (.iconst 2, 1) := by decide +kernel
theorem d1_2 : decode prog_5_method_4_code 2 = .ok (.irem, 1) := by decide +kernel
theorem d1_3 : decode prog_5_method_4_code 3 = .ok (.iconst 1, 1) := by decide +kernel
theorem d1_4 : decode prog_5_method_4_code 4 = .ok (.if_icmp .ne 10, 3) := by decide +kernel
theorem d1_7 : decode prog_5_method_4_code 7 = .ok (.aload_n 0, 1) := by decide +kernel
theorem d1_8 : decode prog_5_method_4_code 8 = .ok (.getfield 35, 3) := by decide +kernel
theorem d1_11 : decode prog_5_method_4_code 11 = .ok (.goto 7, 3) := by decide +kernel
theorem d1_18 : decode prog_5_method_4_code 18 = .ok (.areturn, 1) := by decide +kernel
theorem d1_14 : decode prog_5_method_4_code 14 = .ok (.aload_n 0, 1) := by decide +kernel
theorem d1_15 : decode prog_5_method_4_code 15 = .ok (.getfield 39, 3) := by decide +kernel
theorem pn_0 : plainName "com/example/parlour/parlour/frenzy/Diagonal" = true := by first | (simp [plainName, overriddenIn]; done) | decide +kernel
def f1 (p2 : Int32) (w1 : Addr) (w2 : Addr) : Addr := if (p2 % (2 : Int32)) = (1 : Int32) then w1 else w2
theorem ef_1 (m : MethodId) (x0 : Addr) (x1 : Int32) : entryFrame m #[(.ref x0), (.int x1)] 2 = mkF m 0 #[.val (.ref x0), .val (.int x1)] [] := by first | (simp [entryFrame, mkF, argsToLocals, Value.category]; done) | rfl
def Q1 (Z : State) (a1 : Addr) (p2 : Int32) (w1 : Addr) (w2 : Addr) (h0 : Heap) (n0 : Nat) (v : Option Value) (h : Heap) (L : List Loc) : Prop := v = some (.ref (f1 p2 w1 w2)) ∧ Fr n0 L ∧ h = h0
set_option maxRecDepth 65536 in
set_option maxHeartbeats 40000000 in
theorem rm1 (l : Launch) (Z : State) (a0 : Array Value) (hw : ∀ d ∈ tables_1, d.before a0 Z = true) (ws : List Jvm.Cond) (a1 : Addr) (p2 : Int32) (w1 : Addr) (w2 : Addr) (h0 : Heap) (n0 : Nat) (Z0 : n0 ≤ h0.size) (F_a1_vertical : Fld Z h0 a1 "com/example/parlour/parlour/frenzy/Diagonal" "vertical" "Lcom/example/parlour/parlour/frenzy/Direction;" (.ref w1)) (F_a1_horizontal : Fld Z h0 a1 "com/example/parlour/parlour/frenzy/Diagonal" "horizontal" "Lcom/example/parlour/parlour/frenzy/Direction;" (.ref w2)) :
    MetFree l (⟨"com/example/parlour/parlour/frenzy/Diagonal", "way", "(I)Lcom/example/parlour/parlour/frenzy/Direction;"⟩ : MethodName) (head1 (Jvm.Cond.code (⟨"com/example/parlour/parlour/frenzy/Diagonal", "way", "(I)Lcom/example/parlour/parlour/frenzy/Direction;"⟩ : MethodName) prog_5_method_4_code 2 (some (.object "com/example/parlour/parlour/frenzy/Direction")) :: ws) ({ frames := 0, cells := 0, slots := 0, locals := 0 } : Room)) (fun a U => a = #[(.ref a1), (.int p2)] ∧ Z.Warmed39 U.vm ∧ U.heap = h0) (fun _ _ _ _ _ => True) (fun _ U o U' => ∃ v L, o = .returned v ∧ Q1 Z a1 p2 w1 w2 h0 n0 v U'.heap L ∧ FrameEnd U o U' L ({ frames := 0, cells := 0, slots := 0, locals := 0 } : Room).cells ({ frames := 0, cells := 0, slots := 0, locals := 0 } : Room).slots) := by
  refine MetFree.of_bodySF (plainFor_of_name pn_0) hisR ?_
  intro p e s m args below meth c s₁ Bd hml0 hP hK
  obtain ⟨rfl, hZ, hh⟩ := hP
  have hx := Bd.exec
  have hby := Bd.bytes
  have hml : c.maxLocals = 2 := hml0
  have hown : s.vm.findClass "com/example/parlour/parlour/frenzy/Diagonal" = some m.cls := findClass_of_methodNamed Bd.named
  have hnm := (name_of_methodNamed Bd.named Bd.method).1
  have X0 : Stand p l e ({ frames := 0, cells := 0, slots := 0, locals := 0 } : Room) s m #[(.ref a1), (.int p2)] below meth c s₁ [] 0 0 := Stand.of_body Bd
  have e0 : s₁.heap = h0 := by rw [← hh, Bd.state]; rfl
  have N0 := Fr.nil n0
  have pre0 : ∀ t, Steps p.tables e below (s₁.setTop (mkF m 0 #[.val (.ref a1), .val (.int p2)] [])) t → Steps p.tables e below (s₁.setTop (entryFrame m #[(.ref a1), (.int p2)] 2)) t := fun t k => castTop (ef_1 m a1 p2) k
  have pre1 : ∀ t, Steps p.tables e below (s₁.setTop (mkF m 4 #[.val (.ref a1), .val (.int p2)] [(.int (1 : Int32)), (.int (p2 % (2 : Int32)))])) t → Steps p.tables e below (s₁.setTop (entryFrame m #[(.ref a1), (.int p2)] 2)) t := fun t k => pre0 t (by
    show Steps p.tables e below (s₁.setTop (mkF m 0 #[.val (.ref a1), .val (.int p2)] [])) _
    refine XS.iloadN X0.here hx rfl (hb hby d1_0) rfl ?_
    show Steps p.tables e below (s₁.setTop (mkF m 1 #[.val (.ref a1), .val (.int p2)] [(.int p2)])) _
    refine XS.iconst X0.here hx rfl (hb hby d1_1) ?_
    show Steps p.tables e below (s₁.setTop (mkF m 2 #[.val (.ref a1), .val (.int p2)] [(.int (2 : Int32)), (.int p2)])) _
    refine iremM X0 hx rfl (hb hby d1_2) rfl (by decide) ?_
    show Steps p.tables e below (s₁.setTop (mkF m 3 #[.val (.ref a1), .val (.int p2)] [(.int (p2 % (2 : Int32)))])) _
    refine XS.iconst X0.here hx rfl (hb hby d1_3) ?_
    exact k)
  by_cases hc2 : (p2 % (2 : Int32)) = (1 : Int32)
  · obtain ⟨T3, X3, e3, st3⟩ := getF X0 hx hZ hown (host := "") (Or.inl (hw _ (List.mem_of_getElem? (i := 14) rfl))) Via.refl e0 F_a1_vertical (g := (mkF m 8 #[.val (.ref a1), .val (.int p2)] [(.ref a1)])) rfl rfl (hb hby d1_8)
    obtain ⟨fs, hr, hrun, hended, hW, hsame⟩ := X3.leave (v := some (.ref w1)) (fun h => by rw [Bd.returns] at h; cases h)
    refine ⟨_, _, pre1 _ ?_, hrun, hended, _, _, rfl, ?_, ⟨_, rfl⟩, hW, hsame.mono (by decide) (by decide)⟩
    · show Steps p.tables e below (s₁.setTop (mkF m 4 #[.val (.ref a1), .val (.int p2)] [(.int (1 : Int32)), (.int (p2 % (2 : Int32)))])) _
      refine XS.icmpNo X0.here hx rfl (hb hby d1_4) rfl (teq hc2).2 ?_
      show Steps p.tables e below (s₁.setTop (mkF m 7 #[.val (.ref a1), .val (.int p2)] [])) _
      refine XS.aloadN X0.here hx rfl (hb hby d1_7) rfl rfl ?_
      show Steps p.tables e below (s₁.setTop (mkF m 8 #[.val (.ref a1), .val (.int p2)] [(.ref a1)])) _
      refine st3 _ ?_
      show Steps p.tables e below (T3.setTop (mkF m 11 #[.val (.ref a1), .val (.int p2)] [(.ref w1)])) _
      refine XS.goto X3.here hx rfl (pc0 := 11) (pc' := 18) rfl (hb hby d1_11) (by decide) (by decide) ?_
      show Steps p.tables e below (T3.setTop (mkF m 18 #[.val (.ref a1), .val (.int p2)] [(.ref w1)])) _
      jvm_step X3.here [X3.here.top, hx, (hb hby d1_18), X3.method', Bd.returns, Value.isRef, FieldType.isReference]
      first | (intro acts; rw [hr _ acts rfl rfl rfl]) | rw [hr _ _ rfl rfl rfl]
      exact Steps.refl _
    · show Q1 Z a1 p2 w1 w2 h0 n0 _ T3.heap _
      rw [e3]
      exact ⟨by rw [show (f1 p2 w1 w2) = w1 from by first | (rw [f1, if_pos hc2]; done) | (simp only [f1, if_pos hc2]; done) | rfl], N0, rfl⟩
  · obtain ⟨T5, X5, e5, st5⟩ := getF X0 hx hZ hown (host := "") (Or.inl (hw _ (List.mem_of_getElem? (i := 22) rfl))) Via.refl e0 F_a1_horizontal (g := (mkF m 15 #[.val (.ref a1), .val (.int p2)] [(.ref a1)])) rfl rfl (hb hby d1_15)
    obtain ⟨fs, hr, hrun, hended, hW, hsame⟩ := X5.leave (v := some (.ref w2)) (fun h => by rw [Bd.returns] at h; cases h)
    refine ⟨_, _, pre1 _ ?_, hrun, hended, _, _, rfl, ?_, ⟨_, rfl⟩, hW, hsame.mono (by decide) (by decide)⟩
    · show Steps p.tables e below (s₁.setTop (mkF m 4 #[.val (.ref a1), .val (.int p2)] [(.int (1 : Int32)), (.int (p2 % (2 : Int32)))])) _
      refine XS.icmpYes X0.here hx rfl (pc0 := 4) (pc' := 14) rfl (hb hby d1_4) rfl (feq hc2).2 (by decide) (by decide) ?_
      show Steps p.tables e below (s₁.setTop (mkF m 14 #[.val (.ref a1), .val (.int p2)] [])) _
      refine XS.aloadN X0.here hx rfl (hb hby d1_14) rfl rfl ?_
      show Steps p.tables e below (s₁.setTop (mkF m 15 #[.val (.ref a1), .val (.int p2)] [(.ref a1)])) _
      refine st5 _ ?_
      show Steps p.tables e below (T5.setTop (mkF m 18 #[.val (.ref a1), .val (.int p2)] [(.ref w2)])) _
      jvm_step X5.here [X5.here.top, hx, (hb hby d1_18), X5.method', Bd.returns, Value.isRef, FieldType.isReference]
      first | (intro acts; rw [hr _ acts rfl rfl rfl]) | rw [hr _ _ rfl rfl rfl]
      exact Steps.refl _
    · show Q1 Z a1 p2 w1 w2 h0 n0 _ T5.heap _
      rw [e5]
      exact ⟨by rw [show (f1 p2 w1 w2) = w2 from by first | (rw [f1, if_neg hc2]; done) | (simp only [f1, if_neg hc2]; done) | rfl], N0, rfl⟩
theorem pd_0 : parseMethodDescriptor "(I)Lcom/example/parlour/parlour/frenzy/Direction;" = some ⟨[.int], some (.object "com/example/parlour/parlour/frenzy/Direction")⟩ := by decide +kernel
theorem pn_1 : plainName "com/example/parlour/parlour/frenzy/DiagonalWayPinLaw" = true := by first | (simp [plainName, overriddenIn]; done) | decide +kernel
def m0_11_0 (p2 : Int32) : Int32 := (if ((p2 &&& (2147483647 : Int32)) &&& (1 : Int32)) = (1 : Int32) then (1 : Int32) else (0 : Int32))
def m0_14_0 (p2 : Int32) (s_UP : Addr) (s_RIGHT : Addr) : Addr := (if (m0_11_0 p2) = (0 : Int32) then s_RIGHT else s_UP)
def m0_33_0 (p2 : Int32) (s_RIGHT : Addr) (s_DOWN : Addr) : Addr := (if (m0_11_0 p2) = (0 : Int32) then s_RIGHT else s_DOWN)
def m0_52_0 (p2 : Int32) (s_DOWN : Addr) (s_LEFT : Addr) : Addr := (if (m0_11_0 p2) = (0 : Int32) then s_LEFT else s_DOWN)
def m0_69_0 (p2 : Int32) (s_UP : Addr) (s_LEFT : Addr) : Addr := (if (m0_11_0 p2) = (0 : Int32) then s_LEFT else s_UP)
def f0 (p1 : Int32) (p2 : Int32) (s_UP : Addr) (s_RIGHT : Addr) (s_DOWN : Addr) (s_LEFT : Addr) : Int32 := if (p1 &&& (3 : Int32)) = (0 : Int32) then if (p2 &&& (2147483647 : Int32)) = (0 : Int32) then (1 : Int32) else if (f1 (p2 &&& (2147483647 : Int32)) s_UP s_RIGHT) = (m0_14_0 p2 s_UP s_RIGHT) then (1 : Int32) else (0 : Int32) else if (p1 &&& (3 : Int32)) = (1 : Int32) then if (p2 &&& (2147483647 : Int32)) = (0 : Int32) then (1 : Int32) else if (f1 (p2 &&& (2147483647 : Int32)) s_DOWN s_RIGHT) = (m0_33_0 p2 s_RIGHT s_DOWN) then (1 : Int32) else (0 : Int32) else if (p1 &&& (3 : Int32)) = (2 : Int32) then if (p2 &&& (2147483647 : Int32)) = (0 : Int32) then (1 : Int32) else if (f1 (p2 &&& (2147483647 : Int32)) s_DOWN s_LEFT) = (m0_52_0 p2 s_DOWN s_LEFT) then (1 : Int32) else (0 : Int32) else if (p2 &&& (2147483647 : Int32)) = (0 : Int32) then (1 : Int32) else if (f1 (p2 &&& (2147483647 : Int32)) s_UP s_LEFT) = (m0_69_0 p2 s_UP s_LEFT) then (1 : Int32) else (0 : Int32)
theorem ef_0 (m : MethodId) (x0 : Int32) (x1 : Int32) : entryFrame m #[(.int x0), (.int x1)] maxLocals = mkF m 0 #[.val (.int x0), .val (.int x1), .unset, .unset, .unset, .unset, .unset, .unset, .unset, .unset] [] := by first | (simp [entryFrame, mkF, argsToLocals, Value.category, maxLocals]; done) | rfl
def Q0 (Z : State) (p1 : Int32) (p2 : Int32) (s_UP_RIGHT : Addr) (s_UP : Addr) (s_RIGHT : Addr) (s_DOWN_LEFT : Addr) (s_DOWN : Addr) (s_LEFT : Addr) (s_DOWN_RIGHT : Addr) (s_UP_LEFT : Addr) (h0 : Heap) (n0 : Nat) (v : Option Value) (h : Heap) (L : List Loc) : Prop := v = some (.int (f0 p1 p2 s_UP s_RIGHT s_DOWN s_LEFT)) ∧ Fr n0 L
set_option maxRecDepth 65536 in
set_option maxHeartbeats 40000000 in
theorem rm0 (l : Launch) (Z : State) (a0 : Array Value) (hw : ∀ d ∈ tables_1, d.before a0 Z = true) (ws : List Jvm.Cond) (p1 : Int32) (p2 : Int32) (s_UP_RIGHT : Addr) (s_UP : Addr) (s_RIGHT : Addr) (s_DOWN_LEFT : Addr) (s_DOWN : Addr) (s_LEFT : Addr) (s_DOWN_RIGHT : Addr) (s_UP_LEFT : Addr) (h0 : Heap) (n0 : Nat) (Z0 : n0 ≤ h0.size) (O0 : Old Z n0 h0) (zS_UP_RIGHT : Sta Z Z.heap "com/example/parlour/parlour/frenzy/Diagonal" "UP_RIGHT" "Lcom/example/parlour/parlour/frenzy/Diagonal;" (.ref s_UP_RIGHT)) (zE_s_UP_RIGHT : Exa Z Z.heap s_UP_RIGHT "com/example/parlour/parlour/frenzy/Diagonal") (zS_UP : Sta Z Z.heap "com/example/parlour/parlour/frenzy/Direction" "UP" "Lcom/example/parlour/parlour/frenzy/Direction;" (.ref s_UP)) (zE_s_UP : Exa Z Z.heap s_UP "com/example/parlour/parlour/frenzy/Direction") (zS_RIGHT : Sta Z Z.heap "com/example/parlour/parlour/frenzy/Direction" "RIGHT" "Lcom/example/parlour/parlour/frenzy/Direction;" (.ref s_RIGHT)) (zE_s_RIGHT : Exa Z Z.heap s_RIGHT "com/example/parlour/parlour/frenzy/Direction") (zS_DOWN_LEFT : Sta Z Z.heap "com/example/parlour/parlour/frenzy/Diagonal" "DOWN_LEFT" "Lcom/example/parlour/parlour/frenzy/Diagonal;" (.ref s_DOWN_LEFT)) (zE_s_DOWN_LEFT : Exa Z Z.heap s_DOWN_LEFT "com/example/parlour/parlour/frenzy/Diagonal") (zS_DOWN : Sta Z Z.heap "com/example/parlour/parlour/frenzy/Direction" "DOWN" "Lcom/example/parlour/parlour/frenzy/Direction;" (.ref s_DOWN)) (zE_s_DOWN : Exa Z Z.heap s_DOWN "com/example/parlour/parlour/frenzy/Direction") (zS_LEFT : Sta Z Z.heap "com/example/parlour/parlour/frenzy/Direction" "LEFT" "Lcom/example/parlour/parlour/frenzy/Direction;" (.ref s_LEFT)) (zE_s_LEFT : Exa Z Z.heap s_LEFT "com/example/parlour/parlour/frenzy/Direction") (zS_DOWN_RIGHT : Sta Z Z.heap "com/example/parlour/parlour/frenzy/Diagonal" "DOWN_RIGHT" "Lcom/example/parlour/parlour/frenzy/Diagonal;" (.ref s_DOWN_RIGHT)) (zE_s_DOWN_RIGHT : Exa Z Z.heap s_DOWN_RIGHT "com/example/parlour/parlour/frenzy/Diagonal") (zS_UP_LEFT : Sta Z Z.heap "com/example/parlour/parlour/frenzy/Diagonal" "UP_LEFT" "Lcom/example/parlour/parlour/frenzy/Diagonal;" (.ref s_UP_LEFT)) (zE_s_UP_LEFT : Exa Z Z.heap s_UP_LEFT "com/example/parlour/parlour/frenzy/Diagonal") (zF_s_UP_RIGHT_vertical : Fld Z Z.heap s_UP_RIGHT "com/example/parlour/parlour/frenzy/Diagonal" "vertical" "Lcom/example/parlour/parlour/frenzy/Direction;" (.ref s_UP)) (zF_s_DOWN_LEFT_vertical : Fld Z Z.heap s_DOWN_LEFT "com/example/parlour/parlour/frenzy/Diagonal" "vertical" "Lcom/example/parlour/parlour/frenzy/Direction;" (.ref s_DOWN)) (zF_s_UP_RIGHT_horizontal : Fld Z Z.heap s_UP_RIGHT "com/example/parlour/parlour/frenzy/Diagonal" "horizontal" "Lcom/example/parlour/parlour/frenzy/Direction;" (.ref s_RIGHT)) (zF_s_DOWN_RIGHT_vertical : Fld Z Z.heap s_DOWN_RIGHT "com/example/parlour/parlour/frenzy/Diagonal" "vertical" "Lcom/example/parlour/parlour/frenzy/Direction;" (.ref s_DOWN)) (zF_s_DOWN_LEFT_horizontal : Fld Z Z.heap s_DOWN_LEFT "com/example/parlour/parlour/frenzy/Diagonal" "horizontal" "Lcom/example/parlour/parlour/frenzy/Direction;" (.ref s_LEFT)) (zF_s_UP_LEFT_horizontal : Fld Z Z.heap s_UP_LEFT "com/example/parlour/parlour/frenzy/Diagonal" "horizontal" "Lcom/example/parlour/parlour/frenzy/Direction;" (.ref s_LEFT)) (zF_s_UP_LEFT_vertical : Fld Z Z.heap s_UP_LEFT "com/example/parlour/parlour/frenzy/Diagonal" "vertical" "Lcom/example/parlour/parlour/frenzy/Direction;" (.ref s_UP)) (zF_s_DOWN_RIGHT_horizontal : Fld Z Z.heap s_DOWN_RIGHT "com/example/parlour/parlour/frenzy/Diagonal" "horizontal" "Lcom/example/parlour/parlour/frenzy/Direction;" (.ref s_RIGHT)) :
    MetFree l x (head1 (Jvm.Cond.code x code maxLocals ret :: ws) room_1) (fun a U => a = #[(.int p1), (.int p2)] ∧ Z.Warmed39 U.vm ∧ U.heap = h0) (fun _ _ _ _ _ => True) (fun _ U o U' => ∃ v L, o = .returned v ∧ Q0 Z p1 p2 s_UP_RIGHT s_UP s_RIGHT s_DOWN_LEFT s_DOWN s_LEFT s_DOWN_RIGHT s_UP_LEFT h0 n0 v U'.heap L ∧ FrameEnd U o U' L room_1.cells room_1.slots) := by
  refine MetFree.of_bodySF (plainFor_of_name pn_1) hisR ?_
  intro p e s m args below meth c s₁ Bd hml0 hP hK
  obtain ⟨rfl, hZ, hh⟩ := hP
  have hx := Bd.exec
  have hby := Bd.bytes
  have hml : c.maxLocals = 10 := hml0
  have hown : s.vm.findClass "com/example/parlour/parlour/frenzy/DiagonalWayPinLaw" = some m.cls := findClass_of_methodNamed Bd.named
  have hnm := (name_of_methodNamed Bd.named Bd.method).1
  have X0 : Stand p l e room_1 s m #[(.int p1), (.int p2)] below meth c s₁ [] 0 0 := Stand.of_body Bd
  have e0 : s₁.heap = h0 := by rw [← hh, Bd.state]; rfl
  have N0 := Fr.nil n0
  have pre0 : ∀ t, Steps p.tables e below (s₁.setTop (mkF m 0 #[.val (.int p1), .val (.int p2), .unset, .unset, .unset, .unset, .unset, .unset, .unset, .unset] [])) t → Steps p.tables e below (s₁.setTop (entryFrame m #[(.int p1), (.int p2)] maxLocals)) t := fun t k => castTop (ef_0 m p1 p2) k
  have pre1 : ∀ t, Steps p.tables e below (s₁.setTop (mkF m 5 #[.val (.int p1), .val (.int p2), .val (.int (p1 &&& (3 : Int32))), .unset, .unset, .unset, .unset, .unset, .unset, .unset] [(.int (p1 &&& (3 : Int32)))])) t → Steps p.tables e below (s₁.setTop (entryFrame m #[(.int p1), (.int p2)] maxLocals)) t := fun t k => pre0 t (by
    show Steps p.tables e below (s₁.setTop (mkF m 0 #[.val (.int p1), .val (.int p2), .unset, .unset, .unset, .unset, .unset, .unset, .unset, .unset] [])) _
    refine XS.iloadN X0.here hx rfl (hb hby at_0) rfl ?_
    show Steps p.tables e below (s₁.setTop (mkF m 1 #[.val (.int p1), .val (.int p2), .unset, .unset, .unset, .unset, .unset, .unset, .unset, .unset] [(.int p1)])) _
    refine XS.iconst X0.here hx rfl (hb hby at_1) ?_
    show Steps p.tables e below (s₁.setTop (mkF m 2 #[.val (.int p1), .val (.int p2), .unset, .unset, .unset, .unset, .unset, .unset, .unset, .unset] [(.int (3 : Int32)), (.int p1)])) _
    refine XS.iand X0.here hx rfl (hb hby at_2) rfl ?_
    show Steps p.tables e below (s₁.setTop (mkF m 3 #[.val (.int p1), .val (.int p2), .unset, .unset, .unset, .unset, .unset, .unset, .unset, .unset] [(.int (p1 &&& (3 : Int32)))])) _
    refine XS.istoreN X0.here hx rfl (hb hby at_3) rfl (l' := #[.val (.int p1), .val (.int p2), .val (.int (p1 &&& (3 : Int32))), .unset, .unset, .unset, .unset, .unset, .unset, .unset]) rfl ?_
    show Steps p.tables e below (s₁.setTop (mkF m 4 #[.val (.int p1), .val (.int p2), .val (.int (p1 &&& (3 : Int32))), .unset, .unset, .unset, .unset, .unset, .unset, .unset] [])) _
    refine XS.iloadN X0.here hx rfl (hb hby at_4) rfl ?_
    exact k)
  by_cases hc2 : (p1 &&& (3 : Int32)) = (0 : Int32)
  · obtain ⟨T3, X3, e3, st3⟩ := getS2 X0 hx hZ hown (host := "") (Or.inl (hw _ (List.mem_of_getElem? (i := 0) rfl))) Via.refl e0 (zS_UP_RIGHT.ext O0.2) (g := (mkF m 8 #[.val (.int p1), .val (.int p2), .val (.int (p1 &&& (3 : Int32))), .unset, .unset, .unset, .unset, .unset, .unset, .unset] [])) rfl (hb hby at_8)
    obtain ⟨T4, X4, e4, st4⟩ := getS2 X3 hx hZ hown (host := "") (Or.inl (hw _ (List.mem_of_getElem? (i := 3) rfl))) Via.refl e3 (zS_UP.ext O0.2) (g := (mkF m 12 #[.val (.int p1), .val (.int p2), .val (.int (p1 &&& (3 : Int32))), .val (.ref s_UP_RIGHT), .unset, .unset, .unset, .unset, .unset, .unset] [])) rfl (hb hby at_12)
    obtain ⟨T5, X5, e5, st5⟩ := getS2 X4 hx hZ hown (host := "") (Or.inl (hw _ (List.mem_of_getElem? (i := 6) rfl))) Via.refl e4 (zS_RIGHT.ext O0.2) (g := (mkF m 17 #[.val (.int p1), .val (.int p2), .val (.int (p1 &&& (3 : Int32))), .val (.ref s_UP_RIGHT), .val (.ref s_UP), .unset, .unset, .unset, .unset, .unset] [])) rfl (hb hby at_17)
    have pre6 : ∀ t, Steps p.tables e below (T5.setTop (mkF m 91 #[.val (.int p1), .val (.int p2), .val (.int (p1 &&& (3 : Int32))), .val (.ref s_UP_RIGHT), .val (.ref s_UP), .val (.ref s_RIGHT), .val (.int (p2 &&& (2147483647 : Int32))), .unset, .unset, .unset] [(.int (p2 &&& (2147483647 : Int32)))])) t → Steps p.tables e below (s₁.setTop (entryFrame m #[(.int p1), (.int p2)] maxLocals)) t := fun t k => pre1 t (by
      show Steps p.tables e below (s₁.setTop (mkF m 5 #[.val (.int p1), .val (.int p2), .val (.int (p1 &&& (3 : Int32))), .unset, .unset, .unset, .unset, .unset, .unset, .unset] [(.int (p1 &&& (3 : Int32)))])) _
      refine XS.ifNo X0.here hx rfl (hb hby at_5) rfl ((if0 _ _).trans (teq hc2).2) ?_
      show Steps p.tables e below (s₁.setTop (mkF m 8 #[.val (.int p1), .val (.int p2), .val (.int (p1 &&& (3 : Int32))), .unset, .unset, .unset, .unset, .unset, .unset, .unset] [])) _
      refine st3 _ ?_
      show Steps p.tables e below (T3.setTop (mkF m 11 #[.val (.int p1), .val (.int p2), .val (.int (p1 &&& (3 : Int32))), .unset, .unset, .unset, .unset, .unset, .unset, .unset] [(.ref s_UP_RIGHT)])) _
      refine XS.astoreN X3.here hx rfl (hb hby at_11) rfl rfl (l' := #[.val (.int p1), .val (.int p2), .val (.int (p1 &&& (3 : Int32))), .val (.ref s_UP_RIGHT), .unset, .unset, .unset, .unset, .unset, .unset]) rfl ?_
      show Steps p.tables e below (T3.setTop (mkF m 12 #[.val (.int p1), .val (.int p2), .val (.int (p1 &&& (3 : Int32))), .val (.ref s_UP_RIGHT), .unset, .unset, .unset, .unset, .unset, .unset] [])) _
      refine st4 _ ?_
      show Steps p.tables e below (T4.setTop (mkF m 15 #[.val (.int p1), .val (.int p2), .val (.int (p1 &&& (3 : Int32))), .val (.ref s_UP_RIGHT), .unset, .unset, .unset, .unset, .unset, .unset] [(.ref s_UP)])) _
      refine XS.astore X4.here hx rfl (hb hby at_15) rfl rfl (l' := #[.val (.int p1), .val (.int p2), .val (.int (p1 &&& (3 : Int32))), .val (.ref s_UP_RIGHT), .val (.ref s_UP), .unset, .unset, .unset, .unset, .unset]) rfl ?_
      show Steps p.tables e below (T4.setTop (mkF m 17 #[.val (.int p1), .val (.int p2), .val (.int (p1 &&& (3 : Int32))), .val (.ref s_UP_RIGHT), .val (.ref s_UP), .unset, .unset, .unset, .unset, .unset] [])) _
      refine st5 _ ?_
      show Steps p.tables e below (T5.setTop (mkF m 20 #[.val (.int p1), .val (.int p2), .val (.int (p1 &&& (3 : Int32))), .val (.ref s_UP_RIGHT), .val (.ref s_UP), .unset, .unset, .unset, .unset, .unset] [(.ref s_RIGHT)])) _
      refine XS.astore X5.here hx rfl (hb hby at_20) rfl rfl (l' := #[.val (.int p1), .val (.int p2), .val (.int (p1 &&& (3 : Int32))), .val (.ref s_UP_RIGHT), .val (.ref s_UP), .val (.ref s_RIGHT), .unset, .unset, .unset, .unset]) rfl ?_
      show Steps p.tables e below (T5.setTop (mkF m 22 #[.val (.int p1), .val (.int p2), .val (.int (p1 &&& (3 : Int32))), .val (.ref s_UP_RIGHT), .val (.ref s_UP), .val (.ref s_RIGHT), .unset, .unset, .unset, .unset] [])) _
      refine XS.goto X5.here hx rfl (pc0 := 22) (pc' := 83) rfl (hb hby at_22) (by decide) (by decide) ?_
      show Steps p.tables e below (T5.setTop (mkF m 83 #[.val (.int p1), .val (.int p2), .val (.int (p1 &&& (3 : Int32))), .val (.ref s_UP_RIGHT), .val (.ref s_UP), .val (.ref s_RIGHT), .unset, .unset, .unset, .unset] [])) _
      refine XS.iloadN X5.here hx rfl (hb hby at_83) rfl ?_
      show Steps p.tables e below (T5.setTop (mkF m 84 #[.val (.int p1), .val (.int p2), .val (.int (p1 &&& (3 : Int32))), .val (.ref s_UP_RIGHT), .val (.ref s_UP), .val (.ref s_RIGHT), .unset, .unset, .unset, .unset] [(.int p2)])) _
      refine X5.ldcInt hx hown (mvT hZ (hw _ (List.mem_of_getElem? (i := 8) rfl))) (g := (mkF m 84 #[.val (.int p1), .val (.int p2), .val (.int (p1 &&& (3 : Int32))), .val (.ref s_UP_RIGHT), .val (.ref s_UP), .val (.ref s_RIGHT), .unset, .unset, .unset, .unset] [(.int p2)])) rfl (hb hby at_84) _ ?_
      show Steps p.tables e below (T5.setTop (mkF m 86 #[.val (.int p1), .val (.int p2), .val (.int (p1 &&& (3 : Int32))), .val (.ref s_UP_RIGHT), .val (.ref s_UP), .val (.ref s_RIGHT), .unset, .unset, .unset, .unset] [(.int (2147483647 : Int32)), (.int p2)])) _
      refine XS.iand X5.here hx rfl (hb hby at_86) rfl ?_
      show Steps p.tables e below (T5.setTop (mkF m 87 #[.val (.int p1), .val (.int p2), .val (.int (p1 &&& (3 : Int32))), .val (.ref s_UP_RIGHT), .val (.ref s_UP), .val (.ref s_RIGHT), .unset, .unset, .unset, .unset] [(.int (p2 &&& (2147483647 : Int32)))])) _
      refine XS.istore X5.here hx rfl (hb hby at_87) rfl (l' := #[.val (.int p1), .val (.int p2), .val (.int (p1 &&& (3 : Int32))), .val (.ref s_UP_RIGHT), .val (.ref s_UP), .val (.ref s_RIGHT), .val (.int (p2 &&& (2147483647 : Int32))), .unset, .unset, .unset]) rfl ?_
      show Steps p.tables e below (T5.setTop (mkF m 89 #[.val (.int p1), .val (.int p2), .val (.int (p1 &&& (3 : Int32))), .val (.ref s_UP_RIGHT), .val (.ref s_UP), .val (.ref s_RIGHT), .val (.int (p2 &&& (2147483647 : Int32))), .unset, .unset, .unset] [])) _
      refine XS.iload X5.here hx rfl (hb hby at_89) rfl ?_
      exact k)
    by_cases hc7 : (p2 &&& (2147483647 : Int32)) = (0 : Int32)
    · obtain ⟨fs, hr, hrun, hended, hW, hsame⟩ := X5.leave (v := some (.int (1 : Int32))) (fun h => by rw [Bd.returns] at h; cases h)
      refine ⟨_, _, pre6 _ ?_, hrun, hended, _, _, rfl, ?_, ⟨_, rfl⟩, hW, hsame.mono (by decide) (by decide)⟩
      · show Steps p.tables e below (T5.setTop (mkF m 91 #[.val (.int p1), .val (.int p2), .val (.int (p1 &&& (3 : Int32))), .val (.ref s_UP_RIGHT), .val (.ref s_UP), .val (.ref s_RIGHT), .val (.int (p2 &&& (2147483647 : Int32))), .unset, .unset, .unset] [(.int (p2 &&& (2147483647 : Int32)))])) _
        refine XS.ifNo X5.here hx rfl (hb hby at_91) rfl ((if0 _ _).trans (teq hc7).2) ?_
        show Steps p.tables e below (T5.setTop (mkF m 94 #[.val (.int p1), .val (.int p2), .val (.int (p1 &&& (3 : Int32))), .val (.ref s_UP_RIGHT), .val (.ref s_UP), .val (.ref s_RIGHT), .val (.int (p2 &&& (2147483647 : Int32))), .unset, .unset, .unset] [])) _
        refine XS.iconst X5.here hx rfl (hb hby at_94) ?_
        show Steps p.tables e below (T5.setTop (mkF m 95 #[.val (.int p1), .val (.int p2), .val (.int (p1 &&& (3 : Int32))), .val (.ref s_UP_RIGHT), .val (.ref s_UP), .val (.ref s_RIGHT), .val (.int (p2 &&& (2147483647 : Int32))), .unset, .unset, .unset] [(.int (1 : Int32))])) _
        exact retN X5 hx (t := .boolean) Bd.returns (by simp) (hb hby at_95) hr
      · show Q0 Z p1 p2 s_UP_RIGHT s_UP s_RIGHT s_DOWN_LEFT s_DOWN s_LEFT s_DOWN_RIGHT s_UP_LEFT h0 n0 _ T5.heap _
        rw [e5]
        exact ⟨by rw [show (f0 p1 p2 s_UP s_RIGHT s_DOWN s_LEFT) = (1 : Int32) from by first | (rw [f0, if_pos hc2, if_pos hc7]; done) | (simp only [f0, if_pos hc2, if_pos hc7]; done) | rfl], N0⟩
    · obtain ⟨cq9, kq9, q9a, q9b, q9c⟩ := isOf hZ e5 (zE_s_UP_RIGHT.ext O0.2)
      obtain ⟨_, _, ⟨T9, L9, k9, n9⟩, -, X9, ⟨Lc9, hQ9, l9, y9, z9⟩, st9⟩ := X5.virtualBack hx (y := (⟨"com/example/parlour/parlour/frenzy/Diagonal", "way", "(I)Lcom/example/parlour/parlour/frenzy/Direction;"⟩ : MethodName)) (z := (⟨"com/example/parlour/parlour/frenzy/Diagonal", "way", "(I)Lcom/example/parlour/parlour/frenzy/Direction;"⟩ : MethodName)) hown (mvT hZ (hw _ (List.mem_of_getElem? (i := 9) rfl))) (mvT hZ (hw _ (List.mem_of_getElem? (i := 10) rfl))) (notFace_of_selects (args := #[]) (mvT hZ (hw _ (List.mem_of_getElem? (i := 12) rfl)))) (mvT hZ (hw _ (List.mem_of_getElem? (i := 12) rfl))) (mvT hZ (hw _ (List.mem_of_getElem? (i := 11) rfl))) (by decide) (backOf (W := 0) (rm1 l Z a0 hw [] s_UP_RIGHT (p2 &&& (2147483647 : Int32)) s_UP s_RIGHT h0 n0 Z0 (zF_s_UP_RIGHT_vertical.ext O0.2) (zF_s_UP_RIGHT_horizontal.ext O0.2)) hZ (hw _ (List.mem_of_getElem? (i := 13) rfl)) (hw _ (List.mem_of_getElem? (i := 1) rfl)) (by decide) (by decide)) q9a q9c (g := (mkF m 99 #[.val (.int p1), .val (.int p2), .val (.int (p1 &&& (3 : Int32))), .val (.ref s_UP_RIGHT), .val (.ref s_UP), .val (.ref s_RIGHT), .val (.int (p2 &&& (2147483647 : Int32))), .unset, .unset, .unset] [(.int (p2 &&& (2147483647 : Int32))), (.ref s_UP_RIGHT)])) rfl (by rw [hml]; rfl) (Steps.refl _) (argsL := [(.int (p2 &&& (2147483647 : Int32)))]) (rest := []) (lenOf pd_0 rfl) rfl (by show 2 * 0 + _ ≤ _; exact Nat.le_of_eq rfl) (hb hby at_99) (fun _ _ => ⟨rfl, e5, (by decide : 0 + 0 ≤ _), (by decide : 0 + 0 ≤ _)⟩)
      dsimp only [Pt.U, Pt.locs, Pt.cells, Pt.slots] at X9 l9 y9 z9 st9 hQ9
      subst l9 y9 z9
      obtain ⟨rfl, N9q, e9⟩ := hQ9
      have N9 := Fr.app N0 N9q
      have pre10 : ∀ t, Steps p.tables e below (T9.setTop (mkF m 109 #[.val (.int p1), .val (.int p2), .val (.int (p1 &&& (3 : Int32))), .val (.ref s_UP_RIGHT), .val (.ref s_UP), .val (.ref s_RIGHT), .val (.int (p2 &&& (2147483647 : Int32))), .val (.ref (f1 (p2 &&& (2147483647 : Int32)) s_UP s_RIGHT)), .unset, .unset] [(.int (1 : Int32)), (.int ((p2 &&& (2147483647 : Int32)) &&& (1 : Int32)))])) t → Steps p.tables e below (s₁.setTop (entryFrame m #[(.int p1), (.int p2)] maxLocals)) t := fun t k => pre6 t (by
        show Steps p.tables e below (T5.setTop (mkF m 91 #[.val (.int p1), .val (.int p2), .val (.int (p1 &&& (3 : Int32))), .val (.ref s_UP_RIGHT), .val (.ref s_UP), .val (.ref s_RIGHT), .val (.int (p2 &&& (2147483647 : Int32))), .unset, .unset, .unset] [(.int (p2 &&& (2147483647 : Int32)))])) _
        refine XS.ifYes X5.here hx rfl (pc0 := 91) (pc' := 96) rfl (hb hby at_91) rfl ((if0 _ _).trans (feq hc7).2) (by decide) (by decide) ?_
        show Steps p.tables e below (T5.setTop (mkF m 96 #[.val (.int p1), .val (.int p2), .val (.int (p1 &&& (3 : Int32))), .val (.ref s_UP_RIGHT), .val (.ref s_UP), .val (.ref s_RIGHT), .val (.int (p2 &&& (2147483647 : Int32))), .unset, .unset, .unset] [])) _
        refine XS.aloadN X5.here hx rfl (hb hby at_96) rfl rfl ?_
        show Steps p.tables e below (T5.setTop (mkF m 97 #[.val (.int p1), .val (.int p2), .val (.int (p1 &&& (3 : Int32))), .val (.ref s_UP_RIGHT), .val (.ref s_UP), .val (.ref s_RIGHT), .val (.int (p2 &&& (2147483647 : Int32))), .unset, .unset, .unset] [(.ref s_UP_RIGHT)])) _
        refine XS.iload X5.here hx rfl (hb hby at_97) rfl ?_
        show Steps p.tables e below (T5.setTop (mkF m 99 #[.val (.int p1), .val (.int p2), .val (.int (p1 &&& (3 : Int32))), .val (.ref s_UP_RIGHT), .val (.ref s_UP), .val (.ref s_RIGHT), .val (.int (p2 &&& (2147483647 : Int32))), .unset, .unset, .unset] [(.int (p2 &&& (2147483647 : Int32))), (.ref s_UP_RIGHT)])) _
        refine st9.trans ?_
        show Steps p.tables e below (T9.setTop (mkF m 102 #[.val (.int p1), .val (.int p2), .val (.int (p1 &&& (3 : Int32))), .val (.ref s_UP_RIGHT), .val (.ref s_UP), .val (.ref s_RIGHT), .val (.int (p2 &&& (2147483647 : Int32))), .unset, .unset, .unset] [(.ref (f1 (p2 &&& (2147483647 : Int32)) s_UP s_RIGHT))])) _
        refine XS.astore X9.here hx rfl (hb hby at_102) rfl rfl (l' := #[.val (.int p1), .val (.int p2), .val (.int (p1 &&& (3 : Int32))), .val (.ref s_UP_RIGHT), .val (.ref s_UP), .val (.ref s_RIGHT), .val (.int (p2 &&& (2147483647 : Int32))), .val (.ref (f1 (p2 &&& (2147483647 : Int32)) s_UP s_RIGHT)), .unset, .unset]) rfl ?_
        show Steps p.tables e below (T9.setTop (mkF m 104 #[.val (.int p1), .val (.int p2), .val (.int (p1 &&& (3 : Int32))), .val (.ref s_UP_RIGHT), .val (.ref s_UP), .val (.ref s_RIGHT), .val (.int (p2 &&& (2147483647 : Int32))), .val (.ref (f1 (p2 &&& (2147483647 : Int32)) s_UP s_RIGHT)), .unset, .unset] [])) _
        refine XS.iload X9.here hx rfl (hb hby at_104) rfl ?_
        show Steps p.tables e below (T9.setTop (mkF m 106 #[.val (.int p1), .val (.int p2), .val (.int (p1 &&& (3 : Int32))), .val (.ref s_UP_RIGHT), .val (.ref s_UP), .val (.ref s_RIGHT), .val (.int (p2 &&& (2147483647 : Int32))), .val (.ref (f1 (p2 &&& (2147483647 : Int32)) s_UP s_RIGHT)), .unset, .unset] [(.int (p2 &&& (2147483647 : Int32)))])) _
        refine XS.iconst X9.here hx rfl (hb hby at_106) ?_
        show Steps p.tables e below (T9.setTop (mkF m 107 #[.val (.int p1), .val (.int p2), .val (.int (p1 &&& (3 : Int32))), .val (.ref s_UP_RIGHT), .val (.ref s_UP), .val (.ref s_RIGHT), .val (.int (p2 &&& (2147483647 : Int32))), .val (.ref (f1 (p2 &&& (2147483647 : Int32)) s_UP s_RIGHT)), .unset, .unset] [(.int (1 : Int32)), (.int (p2 &&& (2147483647 : Int32)))])) _
        refine XS.iand X9.here hx rfl (hb hby at_107) rfl ?_
        show Steps p.tables e below (T9.setTop (mkF m 108 #[.val (.int p1), .val (.int p2), .val (.int (p1 &&& (3 : Int32))), .val (.ref s_UP_RIGHT), .val (.ref s_UP), .val (.ref s_RIGHT), .val (.int (p2 &&& (2147483647 : Int32))), .val (.ref (f1 (p2 &&& (2147483647 : Int32)) s_UP s_RIGHT)), .unset, .unset] [(.int ((p2 &&& (2147483647 : Int32)) &&& (1 : Int32)))])) _
        refine XS.iconst X9.here hx rfl (hb hby at_108) ?_
        exact k)
      have pre11 : ∀ t, Steps p.tables e below (T9.setTop (mkF m 117 #[.val (.int p1), .val (.int p2), .val (.int (p1 &&& (3 : Int32))), .val (.ref s_UP_RIGHT), .val (.ref s_UP), .val (.ref s_RIGHT), .val (.int (p2 &&& (2147483647 : Int32))), .val (.ref (f1 (p2 &&& (2147483647 : Int32)) s_UP s_RIGHT)), .unset, .unset] [(.int (m0_11_0 p2))])) t → Steps p.tables e below (s₁.setTop (entryFrame m #[(.int p1), (.int p2)] maxLocals)) t := by
        intro t k
        by_cases hc12 : ((p2 &&& (2147483647 : Int32)) &&& (1 : Int32)) = (1 : Int32)
        · rw [show (m0_11_0 p2) = (1 : Int32) from by first | (rw [m0_11_0, if_pos hc12]; done) | (simp only [m0_11_0, if_pos hc12]; done) | rfl] at k
          refine pre10 t ?_
          show Steps p.tables e below (T9.setTop (mkF m 109 #[.val (.int p1), .val (.int p2), .val (.int (p1 &&& (3 : Int32))), .val (.ref s_UP_RIGHT), .val (.ref s_UP), .val (.ref s_RIGHT), .val (.int (p2 &&& (2147483647 : Int32))), .val (.ref (f1 (p2 &&& (2147483647 : Int32)) s_UP s_RIGHT)), .unset, .unset] [(.int (1 : Int32)), (.int ((p2 &&& (2147483647 : Int32)) &&& (1 : Int32)))])) _
          refine XS.icmpNo X9.here hx rfl (hb hby at_109) rfl (teq hc12).2 ?_
          show Steps p.tables e below (T9.setTop (mkF m 112 #[.val (.int p1), .val (.int p2), .val (.int (p1 &&& (3 : Int32))), .val (.ref s_UP_RIGHT), .val (.ref s_UP), .val (.ref s_RIGHT), .val (.int (p2 &&& (2147483647 : Int32))), .val (.ref (f1 (p2 &&& (2147483647 : Int32)) s_UP s_RIGHT)), .unset, .unset] [])) _
          refine XS.iconst X9.here hx rfl (hb hby at_112) ?_
          show Steps p.tables e below (T9.setTop (mkF m 113 #[.val (.int p1), .val (.int p2), .val (.int (p1 &&& (3 : Int32))), .val (.ref s_UP_RIGHT), .val (.ref s_UP), .val (.ref s_RIGHT), .val (.int (p2 &&& (2147483647 : Int32))), .val (.ref (f1 (p2 &&& (2147483647 : Int32)) s_UP s_RIGHT)), .unset, .unset] [(.int (1 : Int32))])) _
          refine XS.goto X9.here hx rfl (pc0 := 113) (pc' := 117) rfl (hb hby at_113) (by decide) (by decide) ?_
          exact k
        · rw [show (m0_11_0 p2) = (0 : Int32) from by first | (rw [m0_11_0, if_neg hc12]; done) | (simp only [m0_11_0, if_neg hc12]; done) | rfl] at k
          refine pre10 t ?_
          show Steps p.tables e below (T9.setTop (mkF m 109 #[.val (.int p1), .val (.int p2), .val (.int (p1 &&& (3 : Int32))), .val (.ref s_UP_RIGHT), .val (.ref s_UP), .val (.ref s_RIGHT), .val (.int (p2 &&& (2147483647 : Int32))), .val (.ref (f1 (p2 &&& (2147483647 : Int32)) s_UP s_RIGHT)), .unset, .unset] [(.int (1 : Int32)), (.int ((p2 &&& (2147483647 : Int32)) &&& (1 : Int32)))])) _
          refine XS.icmpYes X9.here hx rfl (pc0 := 109) (pc' := 116) rfl (hb hby at_109) rfl (feq hc12).2 (by decide) (by decide) ?_
          show Steps p.tables e below (T9.setTop (mkF m 116 #[.val (.int p1), .val (.int p2), .val (.int (p1 &&& (3 : Int32))), .val (.ref s_UP_RIGHT), .val (.ref s_UP), .val (.ref s_RIGHT), .val (.int (p2 &&& (2147483647 : Int32))), .val (.ref (f1 (p2 &&& (2147483647 : Int32)) s_UP s_RIGHT)), .unset, .unset] [])) _
          refine XS.iconst X9.here hx rfl (hb hby at_116) ?_
          exact k
      have pre13 : ∀ t, Steps p.tables e below (T9.setTop (mkF m 121 #[.val (.int p1), .val (.int p2), .val (.int (p1 &&& (3 : Int32))), .val (.ref s_UP_RIGHT), .val (.ref s_UP), .val (.ref s_RIGHT), .val (.int (p2 &&& (2147483647 : Int32))), .val (.ref (f1 (p2 &&& (2147483647 : Int32)) s_UP s_RIGHT)), .val (.int (m0_11_0 p2)), .unset] [(.int (m0_11_0 p2))])) t → Steps p.tables e below (s₁.setTop (entryFrame m #[(.int p1), (.int p2)] maxLocals)) t := fun t k => pre11 t (by
        show Steps p.tables e below (T9.setTop (mkF m 117 #[.val (.int p1), .val (.int p2), .val (.int (p1 &&& (3 : Int32))), .val (.ref s_UP_RIGHT), .val (.ref s_UP), .val (.ref s_RIGHT), .val (.int (p2 &&& (2147483647 : Int32))), .val (.ref (f1 (p2 &&& (2147483647 : Int32)) s_UP s_RIGHT)), .unset, .unset] [(.int (m0_11_0 p2))])) _
        refine XS.istore X9.here hx rfl (hb hby at_117) rfl (l' := #[.val (.int p1), .val (.int p2), .val (.int (p1 &&& (3 : Int32))), .val (.ref s_UP_RIGHT), .val (.ref s_UP), .val (.ref s_RIGHT), .val (.int (p2 &&& (2147483647 : Int32))), .val (.ref (f1 (p2 &&& (2147483647 : Int32)) s_UP s_RIGHT)), .val (.int (m0_11_0 p2)), .unset]) rfl ?_
        show Steps p.tables e below (T9.setTop (mkF m 119 #[.val (.int p1), .val (.int p2), .val (.int (p1 &&& (3 : Int32))), .val (.ref s_UP_RIGHT), .val (.ref s_UP), .val (.ref s_RIGHT), .val (.int (p2 &&& (2147483647 : Int32))), .val (.ref (f1 (p2 &&& (2147483647 : Int32)) s_UP s_RIGHT)), .val (.int (m0_11_0 p2)), .unset] [])) _
        refine XS.iload X9.here hx rfl (hb hby at_119) rfl ?_
        exact k)
      have pre14 : ∀ t, Steps p.tables e below (T9.setTop (mkF m 131 #[.val (.int p1), .val (.int p2), .val (.int (p1 &&& (3 : Int32))), .val (.ref s_UP_RIGHT), .val (.ref s_UP), .val (.ref s_RIGHT), .val (.int (p2 &&& (2147483647 : Int32))), .val (.ref (f1 (p2 &&& (2147483647 : Int32)) s_UP s_RIGHT)), .val (.int (m0_11_0 p2)), .unset] [(.ref (m0_14_0 p2 s_UP s_RIGHT))])) t → Steps p.tables e below (s₁.setTop (entryFrame m #[(.int p1), (.int p2)] maxLocals)) t := by
        intro t k
        by_cases hc15 : (m0_11_0 p2) = (0 : Int32)
        · rw [show (m0_14_0 p2 s_UP s_RIGHT) = s_RIGHT from by first | (rw [m0_14_0, if_pos hc15]; done) | (simp only [m0_14_0, if_pos hc15]; done) | rfl] at k
          refine pre13 t ?_
          show Steps p.tables e below (T9.setTop (mkF m 121 #[.val (.int p1), .val (.int p2), .val (.int (p1 &&& (3 : Int32))), .val (.ref s_UP_RIGHT), .val (.ref s_UP), .val (.ref s_RIGHT), .val (.int (p2 &&& (2147483647 : Int32))), .val (.ref (f1 (p2 &&& (2147483647 : Int32)) s_UP s_RIGHT)), .val (.int (m0_11_0 p2)), .unset] [(.int (m0_11_0 p2))])) _
          refine XS.ifYes X9.here hx rfl (pc0 := 121) (pc' := 129) rfl (hb hby at_121) rfl ((if0 _ _).trans (teq hc15).1) (by decide) (by decide) ?_
          show Steps p.tables e below (T9.setTop (mkF m 129 #[.val (.int p1), .val (.int p2), .val (.int (p1 &&& (3 : Int32))), .val (.ref s_UP_RIGHT), .val (.ref s_UP), .val (.ref s_RIGHT), .val (.int (p2 &&& (2147483647 : Int32))), .val (.ref (f1 (p2 &&& (2147483647 : Int32)) s_UP s_RIGHT)), .val (.int (m0_11_0 p2)), .unset] [])) _
          refine XS.aload X9.here hx rfl (hb hby at_129) rfl rfl ?_
          exact k
        · rw [show (m0_14_0 p2 s_UP s_RIGHT) = s_UP from by first | (rw [m0_14_0, if_neg hc15]; done) | (simp only [m0_14_0, if_neg hc15]; done) | rfl] at k
          refine pre13 t ?_
          show Steps p.tables e below (T9.setTop (mkF m 121 #[.val (.int p1), .val (.int p2), .val (.int (p1 &&& (3 : Int32))), .val (.ref s_UP_RIGHT), .val (.ref s_UP), .val (.ref s_RIGHT), .val (.int (p2 &&& (2147483647 : Int32))), .val (.ref (f1 (p2 &&& (2147483647 : Int32)) s_UP s_RIGHT)), .val (.int (m0_11_0 p2)), .unset] [(.int (m0_11_0 p2))])) _
          refine XS.ifNo X9.here hx rfl (hb hby at_121) rfl ((if0 _ _).trans (feq hc15).1) ?_
          show Steps p.tables e below (T9.setTop (mkF m 124 #[.val (.int p1), .val (.int p2), .val (.int (p1 &&& (3 : Int32))), .val (.ref s_UP_RIGHT), .val (.ref s_UP), .val (.ref s_RIGHT), .val (.int (p2 &&& (2147483647 : Int32))), .val (.ref (f1 (p2 &&& (2147483647 : Int32)) s_UP s_RIGHT)), .val (.int (m0_11_0 p2)), .unset] [])) _
          refine XS.aload X9.here hx rfl (hb hby at_124) rfl rfl ?_
          show Steps p.tables e below (T9.setTop (mkF m 126 #[.val (.int p1), .val (.int p2), .val (.int (p1 &&& (3 : Int32))), .val (.ref s_UP_RIGHT), .val (.ref s_UP), .val (.ref s_RIGHT), .val (.int (p2 &&& (2147483647 : Int32))), .val (.ref (f1 (p2 &&& (2147483647 : Int32)) s_UP s_RIGHT)), .val (.int (m0_11_0 p2)), .unset] [(.ref s_UP)])) _
          refine XS.goto X9.here hx rfl (pc0 := 126) (pc' := 131) rfl (hb hby at_126) (by decide) (by decide) ?_
          exact k
      have pre16 : ∀ t, Steps p.tables e below (T9.setTop (mkF m 137 #[.val (.int p1), .val (.int p2), .val (.int (p1 &&& (3 : Int32))), .val (.ref s_UP_RIGHT), .val (.ref s_UP), .val (.ref s_RIGHT), .val (.int (p2 &&& (2147483647 : Int32))), .val (.ref (f1 (p2 &&& (2147483647 : Int32)) s_UP s_RIGHT)), .val (.int (m0_11_0 p2)), .val (.ref (m0_14_0 p2 s_UP s_RIGHT))] [(.ref (m0_14_0 p2 s_UP s_RIGHT)), (.ref (f1 (p2 &&& (2147483647 : Int32)) s_UP s_RIGHT))])) t → Steps p.tables e below (s₁.setTop (entryFrame m #[(.int p1), (.int p2)] maxLocals)) t := fun t k => pre14 t (by
        show Steps p.tables e below (T9.setTop (mkF m 131 #[.val (.int p1), .val (.int p2), .val (.int (p1 &&& (3 : Int32))), .val (.ref s_UP_RIGHT), .val (.ref s_UP), .val (.ref s_RIGHT), .val (.int (p2 &&& (2147483647 : Int32))), .val (.ref (f1 (p2 &&& (2147483647 : Int32)) s_UP s_RIGHT)), .val (.int (m0_11_0 p2)), .unset] [(.ref (m0_14_0 p2 s_UP s_RIGHT))])) _
        refine XS.astore X9.here hx rfl (hb hby at_131) rfl rfl (l' := #[.val (.int p1), .val (.int p2), .val (.int (p1 &&& (3 : Int32))), .val (.ref s_UP_RIGHT), .val (.ref s_UP), .val (.ref s_RIGHT), .val (.int (p2 &&& (2147483647 : Int32))), .val (.ref (f1 (p2 &&& (2147483647 : Int32)) s_UP s_RIGHT)), .val (.int (m0_11_0 p2)), .val (.ref (m0_14_0 p2 s_UP s_RIGHT))]) rfl ?_
        show Steps p.tables e below (T9.setTop (mkF m 133 #[.val (.int p1), .val (.int p2), .val (.int (p1 &&& (3 : Int32))), .val (.ref s_UP_RIGHT), .val (.ref s_UP), .val (.ref s_RIGHT), .val (.int (p2 &&& (2147483647 : Int32))), .val (.ref (f1 (p2 &&& (2147483647 : Int32)) s_UP s_RIGHT)), .val (.int (m0_11_0 p2)), .val (.ref (m0_14_0 p2 s_UP s_RIGHT))] [])) _
        refine XS.aload X9.here hx rfl (hb hby at_133) rfl rfl ?_
        show Steps p.tables e below (T9.setTop (mkF m 135 #[.val (.int p1), .val (.int p2), .val (.int (p1 &&& (3 : Int32))), .val (.ref s_UP_RIGHT), .val (.ref s_UP), .val (.ref s_RIGHT), .val (.int (p2 &&& (2147483647 : Int32))), .val (.ref (f1 (p2 &&& (2147483647 : Int32)) s_UP s_RIGHT)), .val (.int (m0_11_0 p2)), .val (.ref (m0_14_0 p2 s_UP s_RIGHT))] [(.ref (f1 (p2 &&& (2147483647 : Int32)) s_UP s_RIGHT))])) _
        refine XS.aload X9.here hx rfl (hb hby at_135) rfl rfl ?_
        exact k)
      by_cases hc17 : (f1 (p2 &&& (2147483647 : Int32)) s_UP s_RIGHT) = (m0_14_0 p2 s_UP s_RIGHT)
      · obtain ⟨fs, hr, hrun, hended, hW, hsame⟩ := X9.leave (v := some (.int (1 : Int32))) (fun h => by rw [Bd.returns] at h; cases h)
        refine ⟨_, _, pre16 _ ?_, hrun, hended, _, _, rfl, ?_, ⟨_, rfl⟩, hW, hsame.mono (by decide) (by decide)⟩
        · show Steps p.tables e below (T9.setTop (mkF m 137 #[.val (.int p1), .val (.int p2), .val (.int (p1 &&& (3 : Int32))), .val (.ref s_UP_RIGHT), .val (.ref s_UP), .val (.ref s_RIGHT), .val (.int (p2 &&& (2147483647 : Int32))), .val (.ref (f1 (p2 &&& (2147483647 : Int32)) s_UP s_RIGHT)), .val (.int (m0_11_0 p2)), .val (.ref (m0_14_0 p2 s_UP s_RIGHT))] [(.ref (m0_14_0 p2 s_UP s_RIGHT)), (.ref (f1 (p2 &&& (2147483647 : Int32)) s_UP s_RIGHT))])) _
          refine Jvm.RoadKit.acmp (g := (mkF m 137 #[.val (.int p1), .val (.int p2), .val (.int (p1 &&& (3 : Int32))), .val (.ref s_UP_RIGHT), .val (.ref s_UP), .val (.ref s_RIGHT), .val (.int (p2 &&& (2147483647 : Int32))), .val (.ref (f1 (p2 &&& (2147483647 : Int32)) s_UP s_RIGHT)), .val (.int (m0_11_0 p2)), .val (.ref (m0_14_0 p2 s_UP s_RIGHT))] [(.ref (m0_14_0 p2 s_UP s_RIGHT)), (.ref (f1 (p2 &&& (2147483647 : Int32)) s_UP s_RIGHT))])) X9 hx rfl rfl rfl (pc0 := 137) (pc' := 140) (same := true) rfl (hb hby at_137) rfl (decide_eq_true (congrArg Value.ref hc17)) (by decide) (by decide) ?_
          show Steps p.tables e below (T9.setTop (mkF m 140 #[.val (.int p1), .val (.int p2), .val (.int (p1 &&& (3 : Int32))), .val (.ref s_UP_RIGHT), .val (.ref s_UP), .val (.ref s_RIGHT), .val (.int (p2 &&& (2147483647 : Int32))), .val (.ref (f1 (p2 &&& (2147483647 : Int32)) s_UP s_RIGHT)), .val (.int (m0_11_0 p2)), .val (.ref (m0_14_0 p2 s_UP s_RIGHT))] [])) _
          refine XS.iconst X9.here hx rfl (hb hby at_140) ?_
          show Steps p.tables e below (T9.setTop (mkF m 141 #[.val (.int p1), .val (.int p2), .val (.int (p1 &&& (3 : Int32))), .val (.ref s_UP_RIGHT), .val (.ref s_UP), .val (.ref s_RIGHT), .val (.int (p2 &&& (2147483647 : Int32))), .val (.ref (f1 (p2 &&& (2147483647 : Int32)) s_UP s_RIGHT)), .val (.int (m0_11_0 p2)), .val (.ref (m0_14_0 p2 s_UP s_RIGHT))] [(.int (1 : Int32))])) _
          refine XS.goto X9.here hx rfl (pc0 := 141) (pc' := 145) rfl (hb hby at_141) (by decide) (by decide) ?_
          show Steps p.tables e below (T9.setTop (mkF m 145 #[.val (.int p1), .val (.int p2), .val (.int (p1 &&& (3 : Int32))), .val (.ref s_UP_RIGHT), .val (.ref s_UP), .val (.ref s_RIGHT), .val (.int (p2 &&& (2147483647 : Int32))), .val (.ref (f1 (p2 &&& (2147483647 : Int32)) s_UP s_RIGHT)), .val (.int (m0_11_0 p2)), .val (.ref (m0_14_0 p2 s_UP s_RIGHT))] [(.int (1 : Int32))])) _
          exact retN X9 hx (t := .boolean) Bd.returns (by simp) (hb hby at_145) hr
        · show Q0 Z p1 p2 s_UP_RIGHT s_UP s_RIGHT s_DOWN_LEFT s_DOWN s_LEFT s_DOWN_RIGHT s_UP_LEFT h0 n0 _ T9.heap _
          rw [e9]
          exact ⟨by rw [show (f0 p1 p2 s_UP s_RIGHT s_DOWN s_LEFT) = (1 : Int32) from by first | (rw [f0, if_pos hc2, if_neg hc7, if_pos hc17]; done) | (simp only [f0, if_pos hc2, if_neg hc7, if_pos hc17]; done) | rfl], N9⟩
      · obtain ⟨fs, hr, hrun, hended, hW, hsame⟩ := X9.leave (v := some (.int (0 : Int32))) (fun h => by rw [Bd.returns] at h; cases h)
        refine ⟨_, _, pre16 _ ?_, hrun, hended, _, _, rfl, ?_, ⟨_, rfl⟩, hW, hsame.mono (by decide) (by decide)⟩
        · show Steps p.tables e below (T9.setTop (mkF m 137 #[.val (.int p1), .val (.int p2), .val (.int (p1 &&& (3 : Int32))), .val (.ref s_UP_RIGHT), .val (.ref s_UP), .val (.ref s_RIGHT), .val (.int (p2 &&& (2147483647 : Int32))), .val (.ref (f1 (p2 &&& (2147483647 : Int32)) s_UP s_RIGHT)), .val (.int (m0_11_0 p2)), .val (.ref (m0_14_0 p2 s_UP s_RIGHT))] [(.ref (m0_14_0 p2 s_UP s_RIGHT)), (.ref (f1 (p2 &&& (2147483647 : Int32)) s_UP s_RIGHT))])) _
          refine Jvm.RoadKit.acmp (g := (mkF m 137 #[.val (.int p1), .val (.int p2), .val (.int (p1 &&& (3 : Int32))), .val (.ref s_UP_RIGHT), .val (.ref s_UP), .val (.ref s_RIGHT), .val (.int (p2 &&& (2147483647 : Int32))), .val (.ref (f1 (p2 &&& (2147483647 : Int32)) s_UP s_RIGHT)), .val (.int (m0_11_0 p2)), .val (.ref (m0_14_0 p2 s_UP s_RIGHT))] [(.ref (m0_14_0 p2 s_UP s_RIGHT)), (.ref (f1 (p2 &&& (2147483647 : Int32)) s_UP s_RIGHT))])) X9 hx rfl rfl rfl (pc0 := 137) (pc' := 144) (same := false) rfl (hb hby at_137) rfl (decide_eq_false fun q => hc17 (Value.ref.inj q)) (by decide) (by decide) ?_
          show Steps p.tables e below (T9.setTop (mkF m 144 #[.val (.int p1), .val (.int p2), .val (.int (p1 &&& (3 : Int32))), .val (.ref s_UP_RIGHT), .val (.ref s_UP), .val (.ref s_RIGHT), .val (.int (p2 &&& (2147483647 : Int32))), .val (.ref (f1 (p2 &&& (2147483647 : Int32)) s_UP s_RIGHT)), .val (.int (m0_11_0 p2)), .val (.ref (m0_14_0 p2 s_UP s_RIGHT))] [])) _
          refine XS.iconst X9.here hx rfl (hb hby at_144) ?_
          show Steps p.tables e below (T9.setTop (mkF m 145 #[.val (.int p1), .val (.int p2), .val (.int (p1 &&& (3 : Int32))), .val (.ref s_UP_RIGHT), .val (.ref s_UP), .val (.ref s_RIGHT), .val (.int (p2 &&& (2147483647 : Int32))), .val (.ref (f1 (p2 &&& (2147483647 : Int32)) s_UP s_RIGHT)), .val (.int (m0_11_0 p2)), .val (.ref (m0_14_0 p2 s_UP s_RIGHT))] [(.int (0 : Int32))])) _
          exact retN X9 hx (t := .boolean) Bd.returns (by simp) (hb hby at_145) hr
        · show Q0 Z p1 p2 s_UP_RIGHT s_UP s_RIGHT s_DOWN_LEFT s_DOWN s_LEFT s_DOWN_RIGHT s_UP_LEFT h0 n0 _ T9.heap _
          rw [e9]
          exact ⟨by rw [show (f0 p1 p2 s_UP s_RIGHT s_DOWN s_LEFT) = (0 : Int32) from by first | (rw [f0, if_pos hc2, if_neg hc7, if_neg hc17]; done) | (simp only [f0, if_pos hc2, if_neg hc7, if_neg hc17]; done) | rfl], N9⟩
  · have pre20 : ∀ t, Steps p.tables e below (s₁.setTop (mkF m 27 #[.val (.int p1), .val (.int p2), .val (.int (p1 &&& (3 : Int32))), .unset, .unset, .unset, .unset, .unset, .unset, .unset] [(.int (1 : Int32)), (.int (p1 &&& (3 : Int32)))])) t → Steps p.tables e below (s₁.setTop (entryFrame m #[(.int p1), (.int p2)] maxLocals)) t := fun t k => pre1 t (by
      show Steps p.tables e below (s₁.setTop (mkF m 5 #[.val (.int p1), .val (.int p2), .val (.int (p1 &&& (3 : Int32))), .unset, .unset, .unset, .unset, .unset, .unset, .unset] [(.int (p1 &&& (3 : Int32)))])) _
      refine XS.ifYes X0.here hx rfl (pc0 := 5) (pc' := 25) rfl (hb hby at_5) rfl ((if0 _ _).trans (feq hc2).2) (by decide) (by decide) ?_
      show Steps p.tables e below (s₁.setTop (mkF m 25 #[.val (.int p1), .val (.int p2), .val (.int (p1 &&& (3 : Int32))), .unset, .unset, .unset, .unset, .unset, .unset, .unset] [])) _
      refine XS.iloadN X0.here hx rfl (hb hby at_25) rfl ?_
      show Steps p.tables e below (s₁.setTop (mkF m 26 #[.val (.int p1), .val (.int p2), .val (.int (p1 &&& (3 : Int32))), .unset, .unset, .unset, .unset, .unset, .unset, .unset] [(.int (p1 &&& (3 : Int32)))])) _
      refine XS.iconst X0.here hx rfl (hb hby at_26) ?_
      exact k)
    by_cases hc21 : (p1 &&& (3 : Int32)) = (1 : Int32)
    · obtain ⟨T22, X22, e22, st22⟩ := getS2 X0 hx hZ hown (host := "") (Or.inl (hw _ (List.mem_of_getElem? (i := 24) rfl))) Via.refl e0 (zS_DOWN_RIGHT.ext O0.2) (g := (mkF m 30 #[.val (.int p1), .val (.int p2), .val (.int (p1 &&& (3 : Int32))), .unset, .unset, .unset, .unset, .unset, .unset, .unset] [])) rfl (hb hby at_30)
      obtain ⟨T23, X23, e23, st23⟩ := getS2 X22 hx hZ hown (host := "") (Or.inl (hw _ (List.mem_of_getElem? (i := 18) rfl))) Via.refl e22 (zS_DOWN.ext O0.2) (g := (mkF m 34 #[.val (.int p1), .val (.int p2), .val (.int (p1 &&& (3 : Int32))), .val (.ref s_DOWN_RIGHT), .unset, .unset, .unset, .unset, .unset, .unset] [])) rfl (hb hby at_34)
      obtain ⟨T24, X24, e24, st24⟩ := getS2 X23 hx hZ hown (host := "") (Or.inl (hw _ (List.mem_of_getElem? (i := 6) rfl))) Via.refl e23 (zS_RIGHT.ext O0.2) (g := (mkF m 39 #[.val (.int p1), .val (.int p2), .val (.int (p1 &&& (3 : Int32))), .val (.ref s_DOWN_RIGHT), .val (.ref s_DOWN), .unset, .unset, .unset, .unset, .unset] [])) rfl (hb hby at_39)
      have pre25 : ∀ t, Steps p.tables e below (T24.setTop (mkF m 91 #[.val (.int p1), .val (.int p2), .val (.int (p1 &&& (3 : Int32))), .val (.ref s_DOWN_RIGHT), .val (.ref s_DOWN), .val (.ref s_RIGHT), .val (.int (p2 &&& (2147483647 : Int32))), .unset, .unset, .unset] [(.int (p2 &&& (2147483647 : Int32)))])) t → Steps p.tables e below (s₁.setTop (entryFrame m #[(.int p1), (.int p2)] maxLocals)) t := fun t k => pre20 t (by
        show Steps p.tables e below (s₁.setTop (mkF m 27 #[.val (.int p1), .val (.int p2), .val (.int (p1 &&& (3 : Int32))), .unset, .unset, .unset, .unset, .unset, .unset, .unset] [(.int (1 : Int32)), (.int (p1 &&& (3 : Int32)))])) _
        refine XS.icmpNo X0.here hx rfl (hb hby at_27) rfl (teq hc21).2 ?_
        show Steps p.tables e below (s₁.setTop (mkF m 30 #[.val (.int p1), .val (.int p2), .val (.int (p1 &&& (3 : Int32))), .unset, .unset, .unset, .unset, .unset, .unset, .unset] [])) _
        refine st22 _ ?_
        show Steps p.tables e below (T22.setTop (mkF m 33 #[.val (.int p1), .val (.int p2), .val (.int (p1 &&& (3 : Int32))), .unset, .unset, .unset, .unset, .unset, .unset, .unset] [(.ref s_DOWN_RIGHT)])) _
        refine XS.astoreN X22.here hx rfl (hb hby at_33) rfl rfl (l' := #[.val (.int p1), .val (.int p2), .val (.int (p1 &&& (3 : Int32))), .val (.ref s_DOWN_RIGHT), .unset, .unset, .unset, .unset, .unset, .unset]) rfl ?_
        show Steps p.tables e below (T22.setTop (mkF m 34 #[.val (.int p1), .val (.int p2), .val (.int (p1 &&& (3 : Int32))), .val (.ref s_DOWN_RIGHT), .unset, .unset, .unset, .unset, .unset, .unset] [])) _
        refine st23 _ ?_
        show Steps p.tables e below (T23.setTop (mkF m 37 #[.val (.int p1), .val (.int p2), .val (.int (p1 &&& (3 : Int32))), .val (.ref s_DOWN_RIGHT), .unset, .unset, .unset, .unset, .unset, .unset] [(.ref s_DOWN)])) _
        refine XS.astore X23.here hx rfl (hb hby at_37) rfl rfl (l' := #[.val (.int p1), .val (.int p2), .val (.int (p1 &&& (3 : Int32))), .val (.ref s_DOWN_RIGHT), .val (.ref s_DOWN), .unset, .unset, .unset, .unset, .unset]) rfl ?_
        show Steps p.tables e below (T23.setTop (mkF m 39 #[.val (.int p1), .val (.int p2), .val (.int (p1 &&& (3 : Int32))), .val (.ref s_DOWN_RIGHT), .val (.ref s_DOWN), .unset, .unset, .unset, .unset, .unset] [])) _
        refine st24 _ ?_
        show Steps p.tables e below (T24.setTop (mkF m 42 #[.val (.int p1), .val (.int p2), .val (.int (p1 &&& (3 : Int32))), .val (.ref s_DOWN_RIGHT), .val (.ref s_DOWN), .unset, .unset, .unset, .unset, .unset] [(.ref s_RIGHT)])) _
        refine XS.astore X24.here hx rfl (hb hby at_42) rfl rfl (l' := #[.val (.int p1), .val (.int p2), .val (.int (p1 &&& (3 : Int32))), .val (.ref s_DOWN_RIGHT), .val (.ref s_DOWN), .val (.ref s_RIGHT), .unset, .unset, .unset, .unset]) rfl ?_
        show Steps p.tables e below (T24.setTop (mkF m 44 #[.val (.int p1), .val (.int p2), .val (.int (p1 &&& (3 : Int32))), .val (.ref s_DOWN_RIGHT), .val (.ref s_DOWN), .val (.ref s_RIGHT), .unset, .unset, .unset, .unset] [])) _
        refine XS.goto X24.here hx rfl (pc0 := 44) (pc' := 83) rfl (hb hby at_44) (by decide) (by decide) ?_
        show Steps p.tables e below (T24.setTop (mkF m 83 #[.val (.int p1), .val (.int p2), .val (.int (p1 &&& (3 : Int32))), .val (.ref s_DOWN_RIGHT), .val (.ref s_DOWN), .val (.ref s_RIGHT), .unset, .unset, .unset, .unset] [])) _
        refine XS.iloadN X24.here hx rfl (hb hby at_83) rfl ?_
        show Steps p.tables e below (T24.setTop (mkF m 84 #[.val (.int p1), .val (.int p2), .val (.int (p1 &&& (3 : Int32))), .val (.ref s_DOWN_RIGHT), .val (.ref s_DOWN), .val (.ref s_RIGHT), .unset, .unset, .unset, .unset] [(.int p2)])) _
        refine X24.ldcInt hx hown (mvT hZ (hw _ (List.mem_of_getElem? (i := 8) rfl))) (g := (mkF m 84 #[.val (.int p1), .val (.int p2), .val (.int (p1 &&& (3 : Int32))), .val (.ref s_DOWN_RIGHT), .val (.ref s_DOWN), .val (.ref s_RIGHT), .unset, .unset, .unset, .unset] [(.int p2)])) rfl (hb hby at_84) _ ?_
        show Steps p.tables e below (T24.setTop (mkF m 86 #[.val (.int p1), .val (.int p2), .val (.int (p1 &&& (3 : Int32))), .val (.ref s_DOWN_RIGHT), .val (.ref s_DOWN), .val (.ref s_RIGHT), .unset, .unset, .unset, .unset] [(.int (2147483647 : Int32)), (.int p2)])) _
        refine XS.iand X24.here hx rfl (hb hby at_86) rfl ?_
        show Steps p.tables e below (T24.setTop (mkF m 87 #[.val (.int p1), .val (.int p2), .val (.int (p1 &&& (3 : Int32))), .val (.ref s_DOWN_RIGHT), .val (.ref s_DOWN), .val (.ref s_RIGHT), .unset, .unset, .unset, .unset] [(.int (p2 &&& (2147483647 : Int32)))])) _
        refine XS.istore X24.here hx rfl (hb hby at_87) rfl (l' := #[.val (.int p1), .val (.int p2), .val (.int (p1 &&& (3 : Int32))), .val (.ref s_DOWN_RIGHT), .val (.ref s_DOWN), .val (.ref s_RIGHT), .val (.int (p2 &&& (2147483647 : Int32))), .unset, .unset, .unset]) rfl ?_
        show Steps p.tables e below (T24.setTop (mkF m 89 #[.val (.int p1), .val (.int p2), .val (.int (p1 &&& (3 : Int32))), .val (.ref s_DOWN_RIGHT), .val (.ref s_DOWN), .val (.ref s_RIGHT), .val (.int (p2 &&& (2147483647 : Int32))), .unset, .unset, .unset] [])) _
        refine XS.iload X24.here hx rfl (hb hby at_89) rfl ?_
        exact k)
      by_cases hc26 : (p2 &&& (2147483647 : Int32)) = (0 : Int32)
      · obtain ⟨fs, hr, hrun, hended, hW, hsame⟩ := X24.leave (v := some (.int (1 : Int32))) (fun h => by rw [Bd.returns] at h; cases h)
        refine ⟨_, _, pre25 _ ?_, hrun, hended, _, _, rfl, ?_, ⟨_, rfl⟩, hW, hsame.mono (by decide) (by decide)⟩
        · show Steps p.tables e below (T24.setTop (mkF m 91 #[.val (.int p1), .val (.int p2), .val (.int (p1 &&& (3 : Int32))), .val (.ref s_DOWN_RIGHT), .val (.ref s_DOWN), .val (.ref s_RIGHT), .val (.int (p2 &&& (2147483647 : Int32))), .unset, .unset, .unset] [(.int (p2 &&& (2147483647 : Int32)))])) _
          refine XS.ifNo X24.here hx rfl (hb hby at_91) rfl ((if0 _ _).trans (teq hc26).2) ?_
          show Steps p.tables e below (T24.setTop (mkF m 94 #[.val (.int p1), .val (.int p2), .val (.int (p1 &&& (3 : Int32))), .val (.ref s_DOWN_RIGHT), .val (.ref s_DOWN), .val (.ref s_RIGHT), .val (.int (p2 &&& (2147483647 : Int32))), .unset, .unset, .unset] [])) _
          refine XS.iconst X24.here hx rfl (hb hby at_94) ?_
          show Steps p.tables e below (T24.setTop (mkF m 95 #[.val (.int p1), .val (.int p2), .val (.int (p1 &&& (3 : Int32))), .val (.ref s_DOWN_RIGHT), .val (.ref s_DOWN), .val (.ref s_RIGHT), .val (.int (p2 &&& (2147483647 : Int32))), .unset, .unset, .unset] [(.int (1 : Int32))])) _
          exact retN X24 hx (t := .boolean) Bd.returns (by simp) (hb hby at_95) hr
        · show Q0 Z p1 p2 s_UP_RIGHT s_UP s_RIGHT s_DOWN_LEFT s_DOWN s_LEFT s_DOWN_RIGHT s_UP_LEFT h0 n0 _ T24.heap _
          rw [e24]
          exact ⟨by rw [show (f0 p1 p2 s_UP s_RIGHT s_DOWN s_LEFT) = (1 : Int32) from by first | (rw [f0, if_neg hc2, if_pos hc21, if_pos hc26]; done) | (simp only [f0, if_neg hc2, if_pos hc21, if_pos hc26]; done) | rfl], N0⟩
      · obtain ⟨cq28, kq28, q28a, q28b, q28c⟩ := isOf hZ e24 (zE_s_DOWN_RIGHT.ext O0.2)
        obtain ⟨_, _, ⟨T28, L28, k28, n28⟩, -, X28, ⟨Lc28, hQ28, l28, y28, z28⟩, st28⟩ := X24.virtualBack hx (y := (⟨"com/example/parlour/parlour/frenzy/Diagonal", "way", "(I)Lcom/example/parlour/parlour/frenzy/Direction;"⟩ : MethodName)) (z := (⟨"com/example/parlour/parlour/frenzy/Diagonal", "way", "(I)Lcom/example/parlour/parlour/frenzy/Direction;"⟩ : MethodName)) hown (mvT hZ (hw _ (List.mem_of_getElem? (i := 9) rfl))) (mvT hZ (hw _ (List.mem_of_getElem? (i := 10) rfl))) (notFace_of_selects (args := #[]) (mvT hZ (hw _ (List.mem_of_getElem? (i := 12) rfl)))) (mvT hZ (hw _ (List.mem_of_getElem? (i := 12) rfl))) (mvT hZ (hw _ (List.mem_of_getElem? (i := 11) rfl))) (by decide) (backOf (W := 0) (rm1 l Z a0 hw [] s_DOWN_RIGHT (p2 &&& (2147483647 : Int32)) s_DOWN s_RIGHT h0 n0 Z0 (zF_s_DOWN_RIGHT_vertical.ext O0.2) (zF_s_DOWN_RIGHT_horizontal.ext O0.2)) hZ (hw _ (List.mem_of_getElem? (i := 13) rfl)) (hw _ (List.mem_of_getElem? (i := 1) rfl)) (by decide) (by decide)) q28a q28c (g := (mkF m 99 #[.val (.int p1), .val (.int p2), .val (.int (p1 &&& (3 : Int32))), .val (.ref s_DOWN_RIGHT), .val (.ref s_DOWN), .val (.ref s_RIGHT), .val (.int (p2 &&& (2147483647 : Int32))), .unset, .unset, .unset] [(.int (p2 &&& (2147483647 : Int32))), (.ref s_DOWN_RIGHT)])) rfl (by rw [hml]; rfl) (Steps.refl _) (argsL := [(.int (p2 &&& (2147483647 : Int32)))]) (rest := []) (lenOf pd_0 rfl) rfl (by show 2 * 0 + _ ≤ _; exact Nat.le_of_eq rfl) (hb hby at_99) (fun _ _ => ⟨rfl, e24, (by decide : 0 + 0 ≤ _), (by decide : 0 + 0 ≤ _)⟩)
        dsimp only [Pt.U, Pt.locs, Pt.cells, Pt.slots] at X28 l28 y28 z28 st28 hQ28
        subst l28 y28 z28
        obtain ⟨rfl, N28q, e28⟩ := hQ28
        have N28 := Fr.app N0 N28q
        have pre29 : ∀ t, Steps p.tables e below (T28.setTop (mkF m 109 #[.val (.int p1), .val (.int p2), .val (.int (p1 &&& (3 : Int32))), .val (.ref s_DOWN_RIGHT), .val (.ref s_DOWN), .val (.ref s_RIGHT), .val (.int (p2 &&& (2147483647 : Int32))), .val (.ref (f1 (p2 &&& (2147483647 : Int32)) s_DOWN s_RIGHT)), .unset, .unset] [(.int (1 : Int32)), (.int ((p2 &&& (2147483647 : Int32)) &&& (1 : Int32)))])) t → Steps p.tables e below (s₁.setTop (entryFrame m #[(.int p1), (.int p2)] maxLocals)) t := fun t k => pre25 t (by
          show Steps p.tables e below (T24.setTop (mkF m 91 #[.val (.int p1), .val (.int p2), .val (.int (p1 &&& (3 : Int32))), .val (.ref s_DOWN_RIGHT), .val (.ref s_DOWN), .val (.ref s_RIGHT), .val (.int (p2 &&& (2147483647 : Int32))), .unset, .unset, .unset] [(.int (p2 &&& (2147483647 : Int32)))])) _
          refine XS.ifYes X24.here hx rfl (pc0 := 91) (pc' := 96) rfl (hb hby at_91) rfl ((if0 _ _).trans (feq hc26).2) (by decide) (by decide) ?_
          show Steps p.tables e below (T24.setTop (mkF m 96 #[.val (.int p1), .val (.int p2), .val (.int (p1 &&& (3 : Int32))), .val (.ref s_DOWN_RIGHT), .val (.ref s_DOWN), .val (.ref s_RIGHT), .val (.int (p2 &&& (2147483647 : Int32))), .unset, .unset, .unset] [])) _
          refine XS.aloadN X24.here hx rfl (hb hby at_96) rfl rfl ?_
          show Steps p.tables e below (T24.setTop (mkF m 97 #[.val (.int p1), .val (.int p2), .val (.int (p1 &&& (3 : Int32))), .val (.ref s_DOWN_RIGHT), .val (.ref s_DOWN), .val (.ref s_RIGHT), .val (.int (p2 &&& (2147483647 : Int32))), .unset, .unset, .unset] [(.ref s_DOWN_RIGHT)])) _
          refine XS.iload X24.here hx rfl (hb hby at_97) rfl ?_
          show Steps p.tables e below (T24.setTop (mkF m 99 #[.val (.int p1), .val (.int p2), .val (.int (p1 &&& (3 : Int32))), .val (.ref s_DOWN_RIGHT), .val (.ref s_DOWN), .val (.ref s_RIGHT), .val (.int (p2 &&& (2147483647 : Int32))), .unset, .unset, .unset] [(.int (p2 &&& (2147483647 : Int32))), (.ref s_DOWN_RIGHT)])) _
          refine st28.trans ?_
          show Steps p.tables e below (T28.setTop (mkF m 102 #[.val (.int p1), .val (.int p2), .val (.int (p1 &&& (3 : Int32))), .val (.ref s_DOWN_RIGHT), .val (.ref s_DOWN), .val (.ref s_RIGHT), .val (.int (p2 &&& (2147483647 : Int32))), .unset, .unset, .unset] [(.ref (f1 (p2 &&& (2147483647 : Int32)) s_DOWN s_RIGHT))])) _
          refine XS.astore X28.here hx rfl (hb hby at_102) rfl rfl (l' := #[.val (.int p1), .val (.int p2), .val (.int (p1 &&& (3 : Int32))), .val (.ref s_DOWN_RIGHT), .val (.ref s_DOWN), .val (.ref s_RIGHT), .val (.int (p2 &&& (2147483647 : Int32))), .val (.ref (f1 (p2 &&& (2147483647 : Int32)) s_DOWN s_RIGHT)), .unset, .unset]) rfl ?_
          show Steps p.tables e below (T28.setTop (mkF m 104 #[.val (.int p1), .val (.int p2), .val (.int (p1 &&& (3 : Int32))), .val (.ref s_DOWN_RIGHT), .val (.ref s_DOWN), .val (.ref s_RIGHT), .val (.int (p2 &&& (2147483647 : Int32))), .val (.ref (f1 (p2 &&& (2147483647 : Int32)) s_DOWN s_RIGHT)), .unset, .unset] [])) _
          refine XS.iload X28.here hx rfl (hb hby at_104) rfl ?_
          show Steps p.tables e below (T28.setTop (mkF m 106 #[.val (.int p1), .val (.int p2), .val (.int (p1 &&& (3 : Int32))), .val (.ref s_DOWN_RIGHT), .val (.ref s_DOWN), .val (.ref s_RIGHT), .val (.int (p2 &&& (2147483647 : Int32))), .val (.ref (f1 (p2 &&& (2147483647 : Int32)) s_DOWN s_RIGHT)), .unset, .unset] [(.int (p2 &&& (2147483647 : Int32)))])) _
          refine XS.iconst X28.here hx rfl (hb hby at_106) ?_
          show Steps p.tables e below (T28.setTop (mkF m 107 #[.val (.int p1), .val (.int p2), .val (.int (p1 &&& (3 : Int32))), .val (.ref s_DOWN_RIGHT), .val (.ref s_DOWN), .val (.ref s_RIGHT), .val (.int (p2 &&& (2147483647 : Int32))), .val (.ref (f1 (p2 &&& (2147483647 : Int32)) s_DOWN s_RIGHT)), .unset, .unset] [(.int (1 : Int32)), (.int (p2 &&& (2147483647 : Int32)))])) _
          refine XS.iand X28.here hx rfl (hb hby at_107) rfl ?_
          show Steps p.tables e below (T28.setTop (mkF m 108 #[.val (.int p1), .val (.int p2), .val (.int (p1 &&& (3 : Int32))), .val (.ref s_DOWN_RIGHT), .val (.ref s_DOWN), .val (.ref s_RIGHT), .val (.int (p2 &&& (2147483647 : Int32))), .val (.ref (f1 (p2 &&& (2147483647 : Int32)) s_DOWN s_RIGHT)), .unset, .unset] [(.int ((p2 &&& (2147483647 : Int32)) &&& (1 : Int32)))])) _
          refine XS.iconst X28.here hx rfl (hb hby at_108) ?_
          exact k)
        have pre30 : ∀ t, Steps p.tables e below (T28.setTop (mkF m 117 #[.val (.int p1), .val (.int p2), .val (.int (p1 &&& (3 : Int32))), .val (.ref s_DOWN_RIGHT), .val (.ref s_DOWN), .val (.ref s_RIGHT), .val (.int (p2 &&& (2147483647 : Int32))), .val (.ref (f1 (p2 &&& (2147483647 : Int32)) s_DOWN s_RIGHT)), .unset, .unset] [(.int (m0_11_0 p2))])) t → Steps p.tables e below (s₁.setTop (entryFrame m #[(.int p1), (.int p2)] maxLocals)) t := by
          intro t k
          by_cases hc31 : ((p2 &&& (2147483647 : Int32)) &&& (1 : Int32)) = (1 : Int32)
          · rw [show (m0_11_0 p2) = (1 : Int32) from by first | (rw [m0_11_0, if_pos hc31]; done) | (simp only [m0_11_0, if_pos hc31]; done) | rfl] at k
            refine pre29 t ?_
            show Steps p.tables e below (T28.setTop (mkF m 109 #[.val (.int p1), .val (.int p2), .val (.int (p1 &&& (3 : Int32))), .val (.ref s_DOWN_RIGHT), .val (.ref s_DOWN), .val (.ref s_RIGHT), .val (.int (p2 &&& (2147483647 : Int32))), .val (.ref (f1 (p2 &&& (2147483647 : Int32)) s_DOWN s_RIGHT)), .unset, .unset] [(.int (1 : Int32)), (.int ((p2 &&& (2147483647 : Int32)) &&& (1 : Int32)))])) _
            refine XS.icmpNo X28.here hx rfl (hb hby at_109) rfl (teq hc31).2 ?_
            show Steps p.tables e below (T28.setTop (mkF m 112 #[.val (.int p1), .val (.int p2), .val (.int (p1 &&& (3 : Int32))), .val (.ref s_DOWN_RIGHT), .val (.ref s_DOWN), .val (.ref s_RIGHT), .val (.int (p2 &&& (2147483647 : Int32))), .val (.ref (f1 (p2 &&& (2147483647 : Int32)) s_DOWN s_RIGHT)), .unset, .unset] [])) _
            refine XS.iconst X28.here hx rfl (hb hby at_112) ?_
            show Steps p.tables e below (T28.setTop (mkF m 113 #[.val (.int p1), .val (.int p2), .val (.int (p1 &&& (3 : Int32))), .val (.ref s_DOWN_RIGHT), .val (.ref s_DOWN), .val (.ref s_RIGHT), .val (.int (p2 &&& (2147483647 : Int32))), .val (.ref (f1 (p2 &&& (2147483647 : Int32)) s_DOWN s_RIGHT)), .unset, .unset] [(.int (1 : Int32))])) _
            refine XS.goto X28.here hx rfl (pc0 := 113) (pc' := 117) rfl (hb hby at_113) (by decide) (by decide) ?_
            exact k
          · rw [show (m0_11_0 p2) = (0 : Int32) from by first | (rw [m0_11_0, if_neg hc31]; done) | (simp only [m0_11_0, if_neg hc31]; done) | rfl] at k
            refine pre29 t ?_
            show Steps p.tables e below (T28.setTop (mkF m 109 #[.val (.int p1), .val (.int p2), .val (.int (p1 &&& (3 : Int32))), .val (.ref s_DOWN_RIGHT), .val (.ref s_DOWN), .val (.ref s_RIGHT), .val (.int (p2 &&& (2147483647 : Int32))), .val (.ref (f1 (p2 &&& (2147483647 : Int32)) s_DOWN s_RIGHT)), .unset, .unset] [(.int (1 : Int32)), (.int ((p2 &&& (2147483647 : Int32)) &&& (1 : Int32)))])) _
            refine XS.icmpYes X28.here hx rfl (pc0 := 109) (pc' := 116) rfl (hb hby at_109) rfl (feq hc31).2 (by decide) (by decide) ?_
            show Steps p.tables e below (T28.setTop (mkF m 116 #[.val (.int p1), .val (.int p2), .val (.int (p1 &&& (3 : Int32))), .val (.ref s_DOWN_RIGHT), .val (.ref s_DOWN), .val (.ref s_RIGHT), .val (.int (p2 &&& (2147483647 : Int32))), .val (.ref (f1 (p2 &&& (2147483647 : Int32)) s_DOWN s_RIGHT)), .unset, .unset] [])) _
            refine XS.iconst X28.here hx rfl (hb hby at_116) ?_
            exact k
        have pre32 : ∀ t, Steps p.tables e below (T28.setTop (mkF m 121 #[.val (.int p1), .val (.int p2), .val (.int (p1 &&& (3 : Int32))), .val (.ref s_DOWN_RIGHT), .val (.ref s_DOWN), .val (.ref s_RIGHT), .val (.int (p2 &&& (2147483647 : Int32))), .val (.ref (f1 (p2 &&& (2147483647 : Int32)) s_DOWN s_RIGHT)), .val (.int (m0_11_0 p2)), .unset] [(.int (m0_11_0 p2))])) t → Steps p.tables e below (s₁.setTop (entryFrame m #[(.int p1), (.int p2)] maxLocals)) t := fun t k => pre30 t (by
          show Steps p.tables e below (T28.setTop (mkF m 117 #[.val (.int p1), .val (.int p2), .val (.int (p1 &&& (3 : Int32))), .val (.ref s_DOWN_RIGHT), .val (.ref s_DOWN), .val (.ref s_RIGHT), .val (.int (p2 &&& (2147483647 : Int32))), .val (.ref (f1 (p2 &&& (2147483647 : Int32)) s_DOWN s_RIGHT)), .unset, .unset] [(.int (m0_11_0 p2))])) _
          refine XS.istore X28.here hx rfl (hb hby at_117) rfl (l' := #[.val (.int p1), .val (.int p2), .val (.int (p1 &&& (3 : Int32))), .val (.ref s_DOWN_RIGHT), .val (.ref s_DOWN), .val (.ref s_RIGHT), .val (.int (p2 &&& (2147483647 : Int32))), .val (.ref (f1 (p2 &&& (2147483647 : Int32)) s_DOWN s_RIGHT)), .val (.int (m0_11_0 p2)), .unset]) rfl ?_
          show Steps p.tables e below (T28.setTop (mkF m 119 #[.val (.int p1), .val (.int p2), .val (.int (p1 &&& (3 : Int32))), .val (.ref s_DOWN_RIGHT), .val (.ref s_DOWN), .val (.ref s_RIGHT), .val (.int (p2 &&& (2147483647 : Int32))), .val (.ref (f1 (p2 &&& (2147483647 : Int32)) s_DOWN s_RIGHT)), .val (.int (m0_11_0 p2)), .unset] [])) _
          refine XS.iload X28.here hx rfl (hb hby at_119) rfl ?_
          exact k)
        have pre33 : ∀ t, Steps p.tables e below (T28.setTop (mkF m 131 #[.val (.int p1), .val (.int p2), .val (.int (p1 &&& (3 : Int32))), .val (.ref s_DOWN_RIGHT), .val (.ref s_DOWN), .val (.ref s_RIGHT), .val (.int (p2 &&& (2147483647 : Int32))), .val (.ref (f1 (p2 &&& (2147483647 : Int32)) s_DOWN s_RIGHT)), .val (.int (m0_11_0 p2)), .unset] [(.ref (m0_33_0 p2 s_RIGHT s_DOWN))])) t → Steps p.tables e below (s₁.setTop (entryFrame m #[(.int p1), (.int p2)] maxLocals)) t := by
          intro t k
          by_cases hc34 : (m0_11_0 p2) = (0 : Int32)
          · rw [show (m0_33_0 p2 s_RIGHT s_DOWN) = s_RIGHT from by first | (rw [m0_33_0, if_pos hc34]; done) | (simp only [m0_33_0, if_pos hc34]; done) | rfl] at k
            refine pre32 t ?_
            show Steps p.tables e below (T28.setTop (mkF m 121 #[.val (.int p1), .val (.int p2), .val (.int (p1 &&& (3 : Int32))), .val (.ref s_DOWN_RIGHT), .val (.ref s_DOWN), .val (.ref s_RIGHT), .val (.int (p2 &&& (2147483647 : Int32))), .val (.ref (f1 (p2 &&& (2147483647 : Int32)) s_DOWN s_RIGHT)), .val (.int (m0_11_0 p2)), .unset] [(.int (m0_11_0 p2))])) _
            refine XS.ifYes X28.here hx rfl (pc0 := 121) (pc' := 129) rfl (hb hby at_121) rfl ((if0 _ _).trans (teq hc34).1) (by decide) (by decide) ?_
            show Steps p.tables e below (T28.setTop (mkF m 129 #[.val (.int p1), .val (.int p2), .val (.int (p1 &&& (3 : Int32))), .val (.ref s_DOWN_RIGHT), .val (.ref s_DOWN), .val (.ref s_RIGHT), .val (.int (p2 &&& (2147483647 : Int32))), .val (.ref (f1 (p2 &&& (2147483647 : Int32)) s_DOWN s_RIGHT)), .val (.int (m0_11_0 p2)), .unset] [])) _
            refine XS.aload X28.here hx rfl (hb hby at_129) rfl rfl ?_
            exact k
          · rw [show (m0_33_0 p2 s_RIGHT s_DOWN) = s_DOWN from by first | (rw [m0_33_0, if_neg hc34]; done) | (simp only [m0_33_0, if_neg hc34]; done) | rfl] at k
            refine pre32 t ?_
            show Steps p.tables e below (T28.setTop (mkF m 121 #[.val (.int p1), .val (.int p2), .val (.int (p1 &&& (3 : Int32))), .val (.ref s_DOWN_RIGHT), .val (.ref s_DOWN), .val (.ref s_RIGHT), .val (.int (p2 &&& (2147483647 : Int32))), .val (.ref (f1 (p2 &&& (2147483647 : Int32)) s_DOWN s_RIGHT)), .val (.int (m0_11_0 p2)), .unset] [(.int (m0_11_0 p2))])) _
            refine XS.ifNo X28.here hx rfl (hb hby at_121) rfl ((if0 _ _).trans (feq hc34).1) ?_
            show Steps p.tables e below (T28.setTop (mkF m 124 #[.val (.int p1), .val (.int p2), .val (.int (p1 &&& (3 : Int32))), .val (.ref s_DOWN_RIGHT), .val (.ref s_DOWN), .val (.ref s_RIGHT), .val (.int (p2 &&& (2147483647 : Int32))), .val (.ref (f1 (p2 &&& (2147483647 : Int32)) s_DOWN s_RIGHT)), .val (.int (m0_11_0 p2)), .unset] [])) _
            refine XS.aload X28.here hx rfl (hb hby at_124) rfl rfl ?_
            show Steps p.tables e below (T28.setTop (mkF m 126 #[.val (.int p1), .val (.int p2), .val (.int (p1 &&& (3 : Int32))), .val (.ref s_DOWN_RIGHT), .val (.ref s_DOWN), .val (.ref s_RIGHT), .val (.int (p2 &&& (2147483647 : Int32))), .val (.ref (f1 (p2 &&& (2147483647 : Int32)) s_DOWN s_RIGHT)), .val (.int (m0_11_0 p2)), .unset] [(.ref s_DOWN)])) _
            refine XS.goto X28.here hx rfl (pc0 := 126) (pc' := 131) rfl (hb hby at_126) (by decide) (by decide) ?_
            exact k
        have pre35 : ∀ t, Steps p.tables e below (T28.setTop (mkF m 137 #[.val (.int p1), .val (.int p2), .val (.int (p1 &&& (3 : Int32))), .val (.ref s_DOWN_RIGHT), .val (.ref s_DOWN), .val (.ref s_RIGHT), .val (.int (p2 &&& (2147483647 : Int32))), .val (.ref (f1 (p2 &&& (2147483647 : Int32)) s_DOWN s_RIGHT)), .val (.int (m0_11_0 p2)), .val (.ref (m0_33_0 p2 s_RIGHT s_DOWN))] [(.ref (m0_33_0 p2 s_RIGHT s_DOWN)), (.ref (f1 (p2 &&& (2147483647 : Int32)) s_DOWN s_RIGHT))])) t → Steps p.tables e below (s₁.setTop (entryFrame m #[(.int p1), (.int p2)] maxLocals)) t := fun t k => pre33 t (by
          show Steps p.tables e below (T28.setTop (mkF m 131 #[.val (.int p1), .val (.int p2), .val (.int (p1 &&& (3 : Int32))), .val (.ref s_DOWN_RIGHT), .val (.ref s_DOWN), .val (.ref s_RIGHT), .val (.int (p2 &&& (2147483647 : Int32))), .val (.ref (f1 (p2 &&& (2147483647 : Int32)) s_DOWN s_RIGHT)), .val (.int (m0_11_0 p2)), .unset] [(.ref (m0_33_0 p2 s_RIGHT s_DOWN))])) _
          refine XS.astore X28.here hx rfl (hb hby at_131) rfl rfl (l' := #[.val (.int p1), .val (.int p2), .val (.int (p1 &&& (3 : Int32))), .val (.ref s_DOWN_RIGHT), .val (.ref s_DOWN), .val (.ref s_RIGHT), .val (.int (p2 &&& (2147483647 : Int32))), .val (.ref (f1 (p2 &&& (2147483647 : Int32)) s_DOWN s_RIGHT)), .val (.int (m0_11_0 p2)), .val (.ref (m0_33_0 p2 s_RIGHT s_DOWN))]) rfl ?_
          show Steps p.tables e below (T28.setTop (mkF m 133 #[.val (.int p1), .val (.int p2), .val (.int (p1 &&& (3 : Int32))), .val (.ref s_DOWN_RIGHT), .val (.ref s_DOWN), .val (.ref s_RIGHT), .val (.int (p2 &&& (2147483647 : Int32))), .val (.ref (f1 (p2 &&& (2147483647 : Int32)) s_DOWN s_RIGHT)), .val (.int (m0_11_0 p2)), .val (.ref (m0_33_0 p2 s_RIGHT s_DOWN))] [])) _
          refine XS.aload X28.here hx rfl (hb hby at_133) rfl rfl ?_
          show Steps p.tables e below (T28.setTop (mkF m 135 #[.val (.int p1), .val (.int p2), .val (.int (p1 &&& (3 : Int32))), .val (.ref s_DOWN_RIGHT), .val (.ref s_DOWN), .val (.ref s_RIGHT), .val (.int (p2 &&& (2147483647 : Int32))), .val (.ref (f1 (p2 &&& (2147483647 : Int32)) s_DOWN s_RIGHT)), .val (.int (m0_11_0 p2)), .val (.ref (m0_33_0 p2 s_RIGHT s_DOWN))] [(.ref (f1 (p2 &&& (2147483647 : Int32)) s_DOWN s_RIGHT))])) _
          refine XS.aload X28.here hx rfl (hb hby at_135) rfl rfl ?_
          exact k)
        by_cases hc36 : (f1 (p2 &&& (2147483647 : Int32)) s_DOWN s_RIGHT) = (m0_33_0 p2 s_RIGHT s_DOWN)
        · obtain ⟨fs, hr, hrun, hended, hW, hsame⟩ := X28.leave (v := some (.int (1 : Int32))) (fun h => by rw [Bd.returns] at h; cases h)
          refine ⟨_, _, pre35 _ ?_, hrun, hended, _, _, rfl, ?_, ⟨_, rfl⟩, hW, hsame.mono (by decide) (by decide)⟩
          · show Steps p.tables e below (T28.setTop (mkF m 137 #[.val (.int p1), .val (.int p2), .val (.int (p1 &&& (3 : Int32))), .val (.ref s_DOWN_RIGHT), .val (.ref s_DOWN), .val (.ref s_RIGHT), .val (.int (p2 &&& (2147483647 : Int32))), .val (.ref (f1 (p2 &&& (2147483647 : Int32)) s_DOWN s_RIGHT)), .val (.int (m0_11_0 p2)), .val (.ref (m0_33_0 p2 s_RIGHT s_DOWN))] [(.ref (m0_33_0 p2 s_RIGHT s_DOWN)), (.ref (f1 (p2 &&& (2147483647 : Int32)) s_DOWN s_RIGHT))])) _
            refine Jvm.RoadKit.acmp (g := (mkF m 137 #[.val (.int p1), .val (.int p2), .val (.int (p1 &&& (3 : Int32))), .val (.ref s_DOWN_RIGHT), .val (.ref s_DOWN), .val (.ref s_RIGHT), .val (.int (p2 &&& (2147483647 : Int32))), .val (.ref (f1 (p2 &&& (2147483647 : Int32)) s_DOWN s_RIGHT)), .val (.int (m0_11_0 p2)), .val (.ref (m0_33_0 p2 s_RIGHT s_DOWN))] [(.ref (m0_33_0 p2 s_RIGHT s_DOWN)), (.ref (f1 (p2 &&& (2147483647 : Int32)) s_DOWN s_RIGHT))])) X28 hx rfl rfl rfl (pc0 := 137) (pc' := 140) (same := true) rfl (hb hby at_137) rfl (decide_eq_true (congrArg Value.ref hc36)) (by decide) (by decide) ?_
            show Steps p.tables e below (T28.setTop (mkF m 140 #[.val (.int p1), .val (.int p2), .val (.int (p1 &&& (3 : Int32))), .val (.ref s_DOWN_RIGHT), .val (.ref s_DOWN), .val (.ref s_RIGHT), .val (.int (p2 &&& (2147483647 : Int32))), .val (.ref (f1 (p2 &&& (2147483647 : Int32)) s_DOWN s_RIGHT)), .val (.int (m0_11_0 p2)), .val (.ref (m0_33_0 p2 s_RIGHT s_DOWN))] [])) _
            refine XS.iconst X28.here hx rfl (hb hby at_140) ?_
            show Steps p.tables e below (T28.setTop (mkF m 141 #[.val (.int p1), .val (.int p2), .val (.int (p1 &&& (3 : Int32))), .val (.ref s_DOWN_RIGHT), .val (.ref s_DOWN), .val (.ref s_RIGHT), .val (.int (p2 &&& (2147483647 : Int32))), .val (.ref (f1 (p2 &&& (2147483647 : Int32)) s_DOWN s_RIGHT)), .val (.int (m0_11_0 p2)), .val (.ref (m0_33_0 p2 s_RIGHT s_DOWN))] [(.int (1 : Int32))])) _
            refine XS.goto X28.here hx rfl (pc0 := 141) (pc' := 145) rfl (hb hby at_141) (by decide) (by decide) ?_
            show Steps p.tables e below (T28.setTop (mkF m 145 #[.val (.int p1), .val (.int p2), .val (.int (p1 &&& (3 : Int32))), .val (.ref s_DOWN_RIGHT), .val (.ref s_DOWN), .val (.ref s_RIGHT), .val (.int (p2 &&& (2147483647 : Int32))), .val (.ref (f1 (p2 &&& (2147483647 : Int32)) s_DOWN s_RIGHT)), .val (.int (m0_11_0 p2)), .val (.ref (m0_33_0 p2 s_RIGHT s_DOWN))] [(.int (1 : Int32))])) _
            exact retN X28 hx (t := .boolean) Bd.returns (by simp) (hb hby at_145) hr
          · show Q0 Z p1 p2 s_UP_RIGHT s_UP s_RIGHT s_DOWN_LEFT s_DOWN s_LEFT s_DOWN_RIGHT s_UP_LEFT h0 n0 _ T28.heap _
            rw [e28]
            exact ⟨by rw [show (f0 p1 p2 s_UP s_RIGHT s_DOWN s_LEFT) = (1 : Int32) from by first | (rw [f0, if_neg hc2, if_pos hc21, if_neg hc26, if_pos hc36]; done) | (simp only [f0, if_neg hc2, if_pos hc21, if_neg hc26, if_pos hc36]; done) | rfl], N28⟩
        · obtain ⟨fs, hr, hrun, hended, hW, hsame⟩ := X28.leave (v := some (.int (0 : Int32))) (fun h => by rw [Bd.returns] at h; cases h)
          refine ⟨_, _, pre35 _ ?_, hrun, hended, _, _, rfl, ?_, ⟨_, rfl⟩, hW, hsame.mono (by decide) (by decide)⟩
          · show Steps p.tables e below (T28.setTop (mkF m 137 #[.val (.int p1), .val (.int p2), .val (.int (p1 &&& (3 : Int32))), .val (.ref s_DOWN_RIGHT), .val (.ref s_DOWN), .val (.ref s_RIGHT), .val (.int (p2 &&& (2147483647 : Int32))), .val (.ref (f1 (p2 &&& (2147483647 : Int32)) s_DOWN s_RIGHT)), .val (.int (m0_11_0 p2)), .val (.ref (m0_33_0 p2 s_RIGHT s_DOWN))] [(.ref (m0_33_0 p2 s_RIGHT s_DOWN)), (.ref (f1 (p2 &&& (2147483647 : Int32)) s_DOWN s_RIGHT))])) _
            refine Jvm.RoadKit.acmp (g := (mkF m 137 #[.val (.int p1), .val (.int p2), .val (.int (p1 &&& (3 : Int32))), .val (.ref s_DOWN_RIGHT), .val (.ref s_DOWN), .val (.ref s_RIGHT), .val (.int (p2 &&& (2147483647 : Int32))), .val (.ref (f1 (p2 &&& (2147483647 : Int32)) s_DOWN s_RIGHT)), .val (.int (m0_11_0 p2)), .val (.ref (m0_33_0 p2 s_RIGHT s_DOWN))] [(.ref (m0_33_0 p2 s_RIGHT s_DOWN)), (.ref (f1 (p2 &&& (2147483647 : Int32)) s_DOWN s_RIGHT))])) X28 hx rfl rfl rfl (pc0 := 137) (pc' := 144) (same := false) rfl (hb hby at_137) rfl (decide_eq_false fun q => hc36 (Value.ref.inj q)) (by decide) (by decide) ?_
            show Steps p.tables e below (T28.setTop (mkF m 144 #[.val (.int p1), .val (.int p2), .val (.int (p1 &&& (3 : Int32))), .val (.ref s_DOWN_RIGHT), .val (.ref s_DOWN), .val (.ref s_RIGHT), .val (.int (p2 &&& (2147483647 : Int32))), .val (.ref (f1 (p2 &&& (2147483647 : Int32)) s_DOWN s_RIGHT)), .val (.int (m0_11_0 p2)), .val (.ref (m0_33_0 p2 s_RIGHT s_DOWN))] [])) _
            refine XS.iconst X28.here hx rfl (hb hby at_144) ?_
            show Steps p.tables e below (T28.setTop (mkF m 145 #[.val (.int p1), .val (.int p2), .val (.int (p1 &&& (3 : Int32))), .val (.ref s_DOWN_RIGHT), .val (.ref s_DOWN), .val (.ref s_RIGHT), .val (.int (p2 &&& (2147483647 : Int32))), .val (.ref (f1 (p2 &&& (2147483647 : Int32)) s_DOWN s_RIGHT)), .val (.int (m0_11_0 p2)), .val (.ref (m0_33_0 p2 s_RIGHT s_DOWN))] [(.int (0 : Int32))])) _
            exact retN X28 hx (t := .boolean) Bd.returns (by simp) (hb hby at_145) hr
          · show Q0 Z p1 p2 s_UP_RIGHT s_UP s_RIGHT s_DOWN_LEFT s_DOWN s_LEFT s_DOWN_RIGHT s_UP_LEFT h0 n0 _ T28.heap _
            rw [e28]
            exact ⟨by rw [show (f0 p1 p2 s_UP s_RIGHT s_DOWN s_LEFT) = (0 : Int32) from by first | (rw [f0, if_neg hc2, if_pos hc21, if_neg hc26, if_neg hc36]; done) | (simp only [f0, if_neg hc2, if_pos hc21, if_neg hc26, if_neg hc36]; done) | rfl], N28⟩
    · have pre39 : ∀ t, Steps p.tables e below (s₁.setTop (mkF m 49 #[.val (.int p1), .val (.int p2), .val (.int (p1 &&& (3 : Int32))), .unset, .unset, .unset, .unset, .unset, .unset, .unset] [(.int (2 : Int32)), (.int (p1 &&& (3 : Int32)))])) t → Steps p.tables e below (s₁.setTop (entryFrame m #[(.int p1), (.int p2)] maxLocals)) t := fun t k => pre20 t (by
        show Steps p.tables e below (s₁.setTop (mkF m 27 #[.val (.int p1), .val (.int p2), .val (.int (p1 &&& (3 : Int32))), .unset, .unset, .unset, .unset, .unset, .unset, .unset] [(.int (1 : Int32)), (.int (p1 &&& (3 : Int32)))])) _
        refine XS.icmpYes X0.here hx rfl (pc0 := 27) (pc' := 47) rfl (hb hby at_27) rfl (feq hc21).2 (by decide) (by decide) ?_
        show Steps p.tables e below (s₁.setTop (mkF m 47 #[.val (.int p1), .val (.int p2), .val (.int (p1 &&& (3 : Int32))), .unset, .unset, .unset, .unset, .unset, .unset, .unset] [])) _
        refine XS.iloadN X0.here hx rfl (hb hby at_47) rfl ?_
        show Steps p.tables e below (s₁.setTop (mkF m 48 #[.val (.int p1), .val (.int p2), .val (.int (p1 &&& (3 : Int32))), .unset, .unset, .unset, .unset, .unset, .unset, .unset] [(.int (p1 &&& (3 : Int32)))])) _
        refine XS.iconst X0.here hx rfl (hb hby at_48) ?_
        exact k)
      by_cases hc40 : (p1 &&& (3 : Int32)) = (2 : Int32)
      · obtain ⟨T41, X41, e41, st41⟩ := getS2 X0 hx hZ hown (host := "") (Or.inl (hw _ (List.mem_of_getElem? (i := 16) rfl))) Via.refl e0 (zS_DOWN_LEFT.ext O0.2) (g := (mkF m 52 #[.val (.int p1), .val (.int p2), .val (.int (p1 &&& (3 : Int32))), .unset, .unset, .unset, .unset, .unset, .unset, .unset] [])) rfl (hb hby at_52)
        obtain ⟨T42, X42, e42, st42⟩ := getS2 X41 hx hZ hown (host := "") (Or.inl (hw _ (List.mem_of_getElem? (i := 18) rfl))) Via.refl e41 (zS_DOWN.ext O0.2) (g := (mkF m 56 #[.val (.int p1), .val (.int p2), .val (.int (p1 &&& (3 : Int32))), .val (.ref s_DOWN_LEFT), .unset, .unset, .unset, .unset, .unset, .unset] [])) rfl (hb hby at_56)
        obtain ⟨T43, X43, e43, st43⟩ := getS2 X42 hx hZ hown (host := "") (Or.inl (hw _ (List.mem_of_getElem? (i := 20) rfl))) Via.refl e42 (zS_LEFT.ext O0.2) (g := (mkF m 61 #[.val (.int p1), .val (.int p2), .val (.int (p1 &&& (3 : Int32))), .val (.ref s_DOWN_LEFT), .val (.ref s_DOWN), .unset, .unset, .unset, .unset, .unset] [])) rfl (hb hby at_61)
        have pre44 : ∀ t, Steps p.tables e below (T43.setTop (mkF m 91 #[.val (.int p1), .val (.int p2), .val (.int (p1 &&& (3 : Int32))), .val (.ref s_DOWN_LEFT), .val (.ref s_DOWN), .val (.ref s_LEFT), .val (.int (p2 &&& (2147483647 : Int32))), .unset, .unset, .unset] [(.int (p2 &&& (2147483647 : Int32)))])) t → Steps p.tables e below (s₁.setTop (entryFrame m #[(.int p1), (.int p2)] maxLocals)) t := fun t k => pre39 t (by
          show Steps p.tables e below (s₁.setTop (mkF m 49 #[.val (.int p1), .val (.int p2), .val (.int (p1 &&& (3 : Int32))), .unset, .unset, .unset, .unset, .unset, .unset, .unset] [(.int (2 : Int32)), (.int (p1 &&& (3 : Int32)))])) _
          refine XS.icmpNo X0.here hx rfl (hb hby at_49) rfl (teq hc40).2 ?_
          show Steps p.tables e below (s₁.setTop (mkF m 52 #[.val (.int p1), .val (.int p2), .val (.int (p1 &&& (3 : Int32))), .unset, .unset, .unset, .unset, .unset, .unset, .unset] [])) _
          refine st41 _ ?_
          show Steps p.tables e below (T41.setTop (mkF m 55 #[.val (.int p1), .val (.int p2), .val (.int (p1 &&& (3 : Int32))), .unset, .unset, .unset, .unset, .unset, .unset, .unset] [(.ref s_DOWN_LEFT)])) _
          refine XS.astoreN X41.here hx rfl (hb hby at_55) rfl rfl (l' := #[.val (.int p1), .val (.int p2), .val (.int (p1 &&& (3 : Int32))), .val (.ref s_DOWN_LEFT), .unset, .unset, .unset, .unset, .unset, .unset]) rfl ?_
          show Steps p.tables e below (T41.setTop (mkF m 56 #[.val (.int p1), .val (.int p2), .val (.int (p1 &&& (3 : Int32))), .val (.ref s_DOWN_LEFT), .unset, .unset, .unset, .unset, .unset, .unset] [])) _
          refine st42 _ ?_
          show Steps p.tables e below (T42.setTop (mkF m 59 #[.val (.int p1), .val (.int p2), .val (.int (p1 &&& (3 : Int32))), .val (.ref s_DOWN_LEFT), .unset, .unset, .unset, .unset, .unset, .unset] [(.ref s_DOWN)])) _
          refine XS.astore X42.here hx rfl (hb hby at_59) rfl rfl (l' := #[.val (.int p1), .val (.int p2), .val (.int (p1 &&& (3 : Int32))), .val (.ref s_DOWN_LEFT), .val (.ref s_DOWN), .unset, .unset, .unset, .unset, .unset]) rfl ?_
          show Steps p.tables e below (T42.setTop (mkF m 61 #[.val (.int p1), .val (.int p2), .val (.int (p1 &&& (3 : Int32))), .val (.ref s_DOWN_LEFT), .val (.ref s_DOWN), .unset, .unset, .unset, .unset, .unset] [])) _
          refine st43 _ ?_
          show Steps p.tables e below (T43.setTop (mkF m 64 #[.val (.int p1), .val (.int p2), .val (.int (p1 &&& (3 : Int32))), .val (.ref s_DOWN_LEFT), .val (.ref s_DOWN), .unset, .unset, .unset, .unset, .unset] [(.ref s_LEFT)])) _
          refine XS.astore X43.here hx rfl (hb hby at_64) rfl rfl (l' := #[.val (.int p1), .val (.int p2), .val (.int (p1 &&& (3 : Int32))), .val (.ref s_DOWN_LEFT), .val (.ref s_DOWN), .val (.ref s_LEFT), .unset, .unset, .unset, .unset]) rfl ?_
          show Steps p.tables e below (T43.setTop (mkF m 66 #[.val (.int p1), .val (.int p2), .val (.int (p1 &&& (3 : Int32))), .val (.ref s_DOWN_LEFT), .val (.ref s_DOWN), .val (.ref s_LEFT), .unset, .unset, .unset, .unset] [])) _
          refine XS.goto X43.here hx rfl (pc0 := 66) (pc' := 83) rfl (hb hby at_66) (by decide) (by decide) ?_
          show Steps p.tables e below (T43.setTop (mkF m 83 #[.val (.int p1), .val (.int p2), .val (.int (p1 &&& (3 : Int32))), .val (.ref s_DOWN_LEFT), .val (.ref s_DOWN), .val (.ref s_LEFT), .unset, .unset, .unset, .unset] [])) _
          refine XS.iloadN X43.here hx rfl (hb hby at_83) rfl ?_
          show Steps p.tables e below (T43.setTop (mkF m 84 #[.val (.int p1), .val (.int p2), .val (.int (p1 &&& (3 : Int32))), .val (.ref s_DOWN_LEFT), .val (.ref s_DOWN), .val (.ref s_LEFT), .unset, .unset, .unset, .unset] [(.int p2)])) _
          refine X43.ldcInt hx hown (mvT hZ (hw _ (List.mem_of_getElem? (i := 8) rfl))) (g := (mkF m 84 #[.val (.int p1), .val (.int p2), .val (.int (p1 &&& (3 : Int32))), .val (.ref s_DOWN_LEFT), .val (.ref s_DOWN), .val (.ref s_LEFT), .unset, .unset, .unset, .unset] [(.int p2)])) rfl (hb hby at_84) _ ?_
          show Steps p.tables e below (T43.setTop (mkF m 86 #[.val (.int p1), .val (.int p2), .val (.int (p1 &&& (3 : Int32))), .val (.ref s_DOWN_LEFT), .val (.ref s_DOWN), .val (.ref s_LEFT), .unset, .unset, .unset, .unset] [(.int (2147483647 : Int32)), (.int p2)])) _
          refine XS.iand X43.here hx rfl (hb hby at_86) rfl ?_
          show Steps p.tables e below (T43.setTop (mkF m 87 #[.val (.int p1), .val (.int p2), .val (.int (p1 &&& (3 : Int32))), .val (.ref s_DOWN_LEFT), .val (.ref s_DOWN), .val (.ref s_LEFT), .unset, .unset, .unset, .unset] [(.int (p2 &&& (2147483647 : Int32)))])) _
          refine XS.istore X43.here hx rfl (hb hby at_87) rfl (l' := #[.val (.int p1), .val (.int p2), .val (.int (p1 &&& (3 : Int32))), .val (.ref s_DOWN_LEFT), .val (.ref s_DOWN), .val (.ref s_LEFT), .val (.int (p2 &&& (2147483647 : Int32))), .unset, .unset, .unset]) rfl ?_
          show Steps p.tables e below (T43.setTop (mkF m 89 #[.val (.int p1), .val (.int p2), .val (.int (p1 &&& (3 : Int32))), .val (.ref s_DOWN_LEFT), .val (.ref s_DOWN), .val (.ref s_LEFT), .val (.int (p2 &&& (2147483647 : Int32))), .unset, .unset, .unset] [])) _
          refine XS.iload X43.here hx rfl (hb hby at_89) rfl ?_
          exact k)
        by_cases hc45 : (p2 &&& (2147483647 : Int32)) = (0 : Int32)
        · obtain ⟨fs, hr, hrun, hended, hW, hsame⟩ := X43.leave (v := some (.int (1 : Int32))) (fun h => by rw [Bd.returns] at h; cases h)
          refine ⟨_, _, pre44 _ ?_, hrun, hended, _, _, rfl, ?_, ⟨_, rfl⟩, hW, hsame.mono (by decide) (by decide)⟩
          · show Steps p.tables e below (T43.setTop (mkF m 91 #[.val (.int p1), .val (.int p2), .val (.int (p1 &&& (3 : Int32))), .val (.ref s_DOWN_LEFT), .val (.ref s_DOWN), .val (.ref s_LEFT), .val (.int (p2 &&& (2147483647 : Int32))), .unset, .unset, .unset] [(.int (p2 &&& (2147483647 : Int32)))])) _
            refine XS.ifNo X43.here hx rfl (hb hby at_91) rfl ((if0 _ _).trans (teq hc45).2) ?_
            show Steps p.tables e below (T43.setTop (mkF m 94 #[.val (.int p1), .val (.int p2), .val (.int (p1 &&& (3 : Int32))), .val (.ref s_DOWN_LEFT), .val (.ref s_DOWN), .val (.ref s_LEFT), .val (.int (p2 &&& (2147483647 : Int32))), .unset, .unset, .unset] [])) _
            refine XS.iconst X43.here hx rfl (hb hby at_94) ?_
            show Steps p.tables e below (T43.setTop (mkF m 95 #[.val (.int p1), .val (.int p2), .val (.int (p1 &&& (3 : Int32))), .val (.ref s_DOWN_LEFT), .val (.ref s_DOWN), .val (.ref s_LEFT), .val (.int (p2 &&& (2147483647 : Int32))), .unset, .unset, .unset] [(.int (1 : Int32))])) _
            exact retN X43 hx (t := .boolean) Bd.returns (by simp) (hb hby at_95) hr
          · show Q0 Z p1 p2 s_UP_RIGHT s_UP s_RIGHT s_DOWN_LEFT s_DOWN s_LEFT s_DOWN_RIGHT s_UP_LEFT h0 n0 _ T43.heap _
            rw [e43]
            exact ⟨by rw [show (f0 p1 p2 s_UP s_RIGHT s_DOWN s_LEFT) = (1 : Int32) from by first | (rw [f0, if_neg hc2, if_neg hc21, if_pos hc40, if_pos hc45]; done) | (simp only [f0, if_neg hc2, if_neg hc21, if_pos hc40, if_pos hc45]; done) | rfl], N0⟩
        · obtain ⟨cq47, kq47, q47a, q47b, q47c⟩ := isOf hZ e43 (zE_s_DOWN_LEFT.ext O0.2)
          obtain ⟨_, _, ⟨T47, L47, k47, n47⟩, -, X47, ⟨Lc47, hQ47, l47, y47, z47⟩, st47⟩ := X43.virtualBack hx (y := (⟨"com/example/parlour/parlour/frenzy/Diagonal", "way", "(I)Lcom/example/parlour/parlour/frenzy/Direction;"⟩ : MethodName)) (z := (⟨"com/example/parlour/parlour/frenzy/Diagonal", "way", "(I)Lcom/example/parlour/parlour/frenzy/Direction;"⟩ : MethodName)) hown (mvT hZ (hw _ (List.mem_of_getElem? (i := 9) rfl))) (mvT hZ (hw _ (List.mem_of_getElem? (i := 10) rfl))) (notFace_of_selects (args := #[]) (mvT hZ (hw _ (List.mem_of_getElem? (i := 12) rfl)))) (mvT hZ (hw _ (List.mem_of_getElem? (i := 12) rfl))) (mvT hZ (hw _ (List.mem_of_getElem? (i := 11) rfl))) (by decide) (backOf (W := 0) (rm1 l Z a0 hw [] s_DOWN_LEFT (p2 &&& (2147483647 : Int32)) s_DOWN s_LEFT h0 n0 Z0 (zF_s_DOWN_LEFT_vertical.ext O0.2) (zF_s_DOWN_LEFT_horizontal.ext O0.2)) hZ (hw _ (List.mem_of_getElem? (i := 13) rfl)) (hw _ (List.mem_of_getElem? (i := 1) rfl)) (by decide) (by decide)) q47a q47c (g := (mkF m 99 #[.val (.int p1), .val (.int p2), .val (.int (p1 &&& (3 : Int32))), .val (.ref s_DOWN_LEFT), .val (.ref s_DOWN), .val (.ref s_LEFT), .val (.int (p2 &&& (2147483647 : Int32))), .unset, .unset, .unset] [(.int (p2 &&& (2147483647 : Int32))), (.ref s_DOWN_LEFT)])) rfl (by rw [hml]; rfl) (Steps.refl _) (argsL := [(.int (p2 &&& (2147483647 : Int32)))]) (rest := []) (lenOf pd_0 rfl) rfl (by show 2 * 0 + _ ≤ _; exact Nat.le_of_eq rfl) (hb hby at_99) (fun _ _ => ⟨rfl, e43, (by decide : 0 + 0 ≤ _), (by decide : 0 + 0 ≤ _)⟩)
          dsimp only [Pt.U, Pt.locs, Pt.cells, Pt.slots] at X47 l47 y47 z47 st47 hQ47
          subst l47 y47 z47
          obtain ⟨rfl, N47q, e47⟩ := hQ47
          have N47 := Fr.app N0 N47q
          have pre48 : ∀ t, Steps p.tables e below (T47.setTop (mkF m 109 #[.val (.int p1), .val (.int p2), .val (.int (p1 &&& (3 : Int32))), .val (.ref s_DOWN_LEFT), .val (.ref s_DOWN), .val (.ref s_LEFT), .val (.int (p2 &&& (2147483647 : Int32))), .val (.ref (f1 (p2 &&& (2147483647 : Int32)) s_DOWN s_LEFT)), .unset, .unset] [(.int (1 : Int32)), (.int ((p2 &&& (2147483647 : Int32)) &&& (1 : Int32)))])) t → Steps p.tables e below (s₁.setTop (entryFrame m #[(.int p1), (.int p2)] maxLocals)) t := fun t k => pre44 t (by
            show Steps p.tables e below (T43.setTop (mkF m 91 #[.val (.int p1), .val (.int p2), .val (.int (p1 &&& (3 : Int32))), .val (.ref s_DOWN_LEFT), .val (.ref s_DOWN), .val (.ref s_LEFT), .val (.int (p2 &&& (2147483647 : Int32))), .unset, .unset, .unset] [(.int (p2 &&& (2147483647 : Int32)))])) _
            refine XS.ifYes X43.here hx rfl (pc0 := 91) (pc' := 96) rfl (hb hby at_91) rfl ((if0 _ _).trans (feq hc45).2) (by decide) (by decide) ?_
            show Steps p.tables e below (T43.setTop (mkF m 96 #[.val (.int p1), .val (.int p2), .val (.int (p1 &&& (3 : Int32))), .val (.ref s_DOWN_LEFT), .val (.ref s_DOWN), .val (.ref s_LEFT), .val (.int (p2 &&& (2147483647 : Int32))), .unset, .unset, .unset] [])) _
            refine XS.aloadN X43.here hx rfl (hb hby at_96) rfl rfl ?_
            show Steps p.tables e below (T43.setTop (mkF m 97 #[.val (.int p1), .val (.int p2), .val (.int (p1 &&& (3 : Int32))), .val (.ref s_DOWN_LEFT), .val (.ref s_DOWN), .val (.ref s_LEFT), .val (.int (p2 &&& (2147483647 : Int32))), .unset, .unset, .unset] [(.ref s_DOWN_LEFT)])) _
            refine XS.iload X43.here hx rfl (hb hby at_97) rfl ?_
            show Steps p.tables e below (T43.setTop (mkF m 99 #[.val (.int p1), .val (.int p2), .val (.int (p1 &&& (3 : Int32))), .val (.ref s_DOWN_LEFT), .val (.ref s_DOWN), .val (.ref s_LEFT), .val (.int (p2 &&& (2147483647 : Int32))), .unset, .unset, .unset] [(.int (p2 &&& (2147483647 : Int32))), (.ref s_DOWN_LEFT)])) _
            refine st47.trans ?_
            show Steps p.tables e below (T47.setTop (mkF m 102 #[.val (.int p1), .val (.int p2), .val (.int (p1 &&& (3 : Int32))), .val (.ref s_DOWN_LEFT), .val (.ref s_DOWN), .val (.ref s_LEFT), .val (.int (p2 &&& (2147483647 : Int32))), .unset, .unset, .unset] [(.ref (f1 (p2 &&& (2147483647 : Int32)) s_DOWN s_LEFT))])) _
            refine XS.astore X47.here hx rfl (hb hby at_102) rfl rfl (l' := #[.val (.int p1), .val (.int p2), .val (.int (p1 &&& (3 : Int32))), .val (.ref s_DOWN_LEFT), .val (.ref s_DOWN), .val (.ref s_LEFT), .val (.int (p2 &&& (2147483647 : Int32))), .val (.ref (f1 (p2 &&& (2147483647 : Int32)) s_DOWN s_LEFT)), .unset, .unset]) rfl ?_
            show Steps p.tables e below (T47.setTop (mkF m 104 #[.val (.int p1), .val (.int p2), .val (.int (p1 &&& (3 : Int32))), .val (.ref s_DOWN_LEFT), .val (.ref s_DOWN), .val (.ref s_LEFT), .val (.int (p2 &&& (2147483647 : Int32))), .val (.ref (f1 (p2 &&& (2147483647 : Int32)) s_DOWN s_LEFT)), .unset, .unset] [])) _
            refine XS.iload X47.here hx rfl (hb hby at_104) rfl ?_
            show Steps p.tables e below (T47.setTop (mkF m 106 #[.val (.int p1), .val (.int p2), .val (.int (p1 &&& (3 : Int32))), .val (.ref s_DOWN_LEFT), .val (.ref s_DOWN), .val (.ref s_LEFT), .val (.int (p2 &&& (2147483647 : Int32))), .val (.ref (f1 (p2 &&& (2147483647 : Int32)) s_DOWN s_LEFT)), .unset, .unset] [(.int (p2 &&& (2147483647 : Int32)))])) _
            refine XS.iconst X47.here hx rfl (hb hby at_106) ?_
            show Steps p.tables e below (T47.setTop (mkF m 107 #[.val (.int p1), .val (.int p2), .val (.int (p1 &&& (3 : Int32))), .val (.ref s_DOWN_LEFT), .val (.ref s_DOWN), .val (.ref s_LEFT), .val (.int (p2 &&& (2147483647 : Int32))), .val (.ref (f1 (p2 &&& (2147483647 : Int32)) s_DOWN s_LEFT)), .unset, .unset] [(.int (1 : Int32)), (.int (p2 &&& (2147483647 : Int32)))])) _
            refine XS.iand X47.here hx rfl (hb hby at_107) rfl ?_
            show Steps p.tables e below (T47.setTop (mkF m 108 #[.val (.int p1), .val (.int p2), .val (.int (p1 &&& (3 : Int32))), .val (.ref s_DOWN_LEFT), .val (.ref s_DOWN), .val (.ref s_LEFT), .val (.int (p2 &&& (2147483647 : Int32))), .val (.ref (f1 (p2 &&& (2147483647 : Int32)) s_DOWN s_LEFT)), .unset, .unset] [(.int ((p2 &&& (2147483647 : Int32)) &&& (1 : Int32)))])) _
            refine XS.iconst X47.here hx rfl (hb hby at_108) ?_
            exact k)
          have pre49 : ∀ t, Steps p.tables e below (T47.setTop (mkF m 117 #[.val (.int p1), .val (.int p2), .val (.int (p1 &&& (3 : Int32))), .val (.ref s_DOWN_LEFT), .val (.ref s_DOWN), .val (.ref s_LEFT), .val (.int (p2 &&& (2147483647 : Int32))), .val (.ref (f1 (p2 &&& (2147483647 : Int32)) s_DOWN s_LEFT)), .unset, .unset] [(.int (m0_11_0 p2))])) t → Steps p.tables e below (s₁.setTop (entryFrame m #[(.int p1), (.int p2)] maxLocals)) t := by
            intro t k
            by_cases hc50 : ((p2 &&& (2147483647 : Int32)) &&& (1 : Int32)) = (1 : Int32)
            · rw [show (m0_11_0 p2) = (1 : Int32) from by first | (rw [m0_11_0, if_pos hc50]; done) | (simp only [m0_11_0, if_pos hc50]; done) | rfl] at k
              refine pre48 t ?_
              show Steps p.tables e below (T47.setTop (mkF m 109 #[.val (.int p1), .val (.int p2), .val (.int (p1 &&& (3 : Int32))), .val (.ref s_DOWN_LEFT), .val (.ref s_DOWN), .val (.ref s_LEFT), .val (.int (p2 &&& (2147483647 : Int32))), .val (.ref (f1 (p2 &&& (2147483647 : Int32)) s_DOWN s_LEFT)), .unset, .unset] [(.int (1 : Int32)), (.int ((p2 &&& (2147483647 : Int32)) &&& (1 : Int32)))])) _
              refine XS.icmpNo X47.here hx rfl (hb hby at_109) rfl (teq hc50).2 ?_
              show Steps p.tables e below (T47.setTop (mkF m 112 #[.val (.int p1), .val (.int p2), .val (.int (p1 &&& (3 : Int32))), .val (.ref s_DOWN_LEFT), .val (.ref s_DOWN), .val (.ref s_LEFT), .val (.int (p2 &&& (2147483647 : Int32))), .val (.ref (f1 (p2 &&& (2147483647 : Int32)) s_DOWN s_LEFT)), .unset, .unset] [])) _
              refine XS.iconst X47.here hx rfl (hb hby at_112) ?_
              show Steps p.tables e below (T47.setTop (mkF m 113 #[.val (.int p1), .val (.int p2), .val (.int (p1 &&& (3 : Int32))), .val (.ref s_DOWN_LEFT), .val (.ref s_DOWN), .val (.ref s_LEFT), .val (.int (p2 &&& (2147483647 : Int32))), .val (.ref (f1 (p2 &&& (2147483647 : Int32)) s_DOWN s_LEFT)), .unset, .unset] [(.int (1 : Int32))])) _
              refine XS.goto X47.here hx rfl (pc0 := 113) (pc' := 117) rfl (hb hby at_113) (by decide) (by decide) ?_
              exact k
            · rw [show (m0_11_0 p2) = (0 : Int32) from by first | (rw [m0_11_0, if_neg hc50]; done) | (simp only [m0_11_0, if_neg hc50]; done) | rfl] at k
              refine pre48 t ?_
              show Steps p.tables e below (T47.setTop (mkF m 109 #[.val (.int p1), .val (.int p2), .val (.int (p1 &&& (3 : Int32))), .val (.ref s_DOWN_LEFT), .val (.ref s_DOWN), .val (.ref s_LEFT), .val (.int (p2 &&& (2147483647 : Int32))), .val (.ref (f1 (p2 &&& (2147483647 : Int32)) s_DOWN s_LEFT)), .unset, .unset] [(.int (1 : Int32)), (.int ((p2 &&& (2147483647 : Int32)) &&& (1 : Int32)))])) _
              refine XS.icmpYes X47.here hx rfl (pc0 := 109) (pc' := 116) rfl (hb hby at_109) rfl (feq hc50).2 (by decide) (by decide) ?_
              show Steps p.tables e below (T47.setTop (mkF m 116 #[.val (.int p1), .val (.int p2), .val (.int (p1 &&& (3 : Int32))), .val (.ref s_DOWN_LEFT), .val (.ref s_DOWN), .val (.ref s_LEFT), .val (.int (p2 &&& (2147483647 : Int32))), .val (.ref (f1 (p2 &&& (2147483647 : Int32)) s_DOWN s_LEFT)), .unset, .unset] [])) _
              refine XS.iconst X47.here hx rfl (hb hby at_116) ?_
              exact k
          have pre51 : ∀ t, Steps p.tables e below (T47.setTop (mkF m 121 #[.val (.int p1), .val (.int p2), .val (.int (p1 &&& (3 : Int32))), .val (.ref s_DOWN_LEFT), .val (.ref s_DOWN), .val (.ref s_LEFT), .val (.int (p2 &&& (2147483647 : Int32))), .val (.ref (f1 (p2 &&& (2147483647 : Int32)) s_DOWN s_LEFT)), .val (.int (m0_11_0 p2)), .unset] [(.int (m0_11_0 p2))])) t → Steps p.tables e below (s₁.setTop (entryFrame m #[(.int p1), (.int p2)] maxLocals)) t := fun t k => pre49 t (by
            show Steps p.tables e below (T47.setTop (mkF m 117 #[.val (.int p1), .val (.int p2), .val (.int (p1 &&& (3 : Int32))), .val (.ref s_DOWN_LEFT), .val (.ref s_DOWN), .val (.ref s_LEFT), .val (.int (p2 &&& (2147483647 : Int32))), .val (.ref (f1 (p2 &&& (2147483647 : Int32)) s_DOWN s_LEFT)), .unset, .unset] [(.int (m0_11_0 p2))])) _
            refine XS.istore X47.here hx rfl (hb hby at_117) rfl (l' := #[.val (.int p1), .val (.int p2), .val (.int (p1 &&& (3 : Int32))), .val (.ref s_DOWN_LEFT), .val (.ref s_DOWN), .val (.ref s_LEFT), .val (.int (p2 &&& (2147483647 : Int32))), .val (.ref (f1 (p2 &&& (2147483647 : Int32)) s_DOWN s_LEFT)), .val (.int (m0_11_0 p2)), .unset]) rfl ?_
            show Steps p.tables e below (T47.setTop (mkF m 119 #[.val (.int p1), .val (.int p2), .val (.int (p1 &&& (3 : Int32))), .val (.ref s_DOWN_LEFT), .val (.ref s_DOWN), .val (.ref s_LEFT), .val (.int (p2 &&& (2147483647 : Int32))), .val (.ref (f1 (p2 &&& (2147483647 : Int32)) s_DOWN s_LEFT)), .val (.int (m0_11_0 p2)), .unset] [])) _
            refine XS.iload X47.here hx rfl (hb hby at_119) rfl ?_
            exact k)
          have pre52 : ∀ t, Steps p.tables e below (T47.setTop (mkF m 131 #[.val (.int p1), .val (.int p2), .val (.int (p1 &&& (3 : Int32))), .val (.ref s_DOWN_LEFT), .val (.ref s_DOWN), .val (.ref s_LEFT), .val (.int (p2 &&& (2147483647 : Int32))), .val (.ref (f1 (p2 &&& (2147483647 : Int32)) s_DOWN s_LEFT)), .val (.int (m0_11_0 p2)), .unset] [(.ref (m0_52_0 p2 s_DOWN s_LEFT))])) t → Steps p.tables e below (s₁.setTop (entryFrame m #[(.int p1), (.int p2)] maxLocals)) t := by
            intro t k
            by_cases hc53 : (m0_11_0 p2) = (0 : Int32)
            · rw [show (m0_52_0 p2 s_DOWN s_LEFT) = s_LEFT from by first | (rw [m0_52_0, if_pos hc53]; done) | (simp only [m0_52_0, if_pos hc53]; done) | rfl] at k
              refine pre51 t ?_
              show Steps p.tables e below (T47.setTop (mkF m 121 #[.val (.int p1), .val (.int p2), .val (.int (p1 &&& (3 : Int32))), .val (.ref s_DOWN_LEFT), .val (.ref s_DOWN), .val (.ref s_LEFT), .val (.int (p2 &&& (2147483647 : Int32))), .val (.ref (f1 (p2 &&& (2147483647 : Int32)) s_DOWN s_LEFT)), .val (.int (m0_11_0 p2)), .unset] [(.int (m0_11_0 p2))])) _
              refine XS.ifYes X47.here hx rfl (pc0 := 121) (pc' := 129) rfl (hb hby at_121) rfl ((if0 _ _).trans (teq hc53).1) (by decide) (by decide) ?_
              show Steps p.tables e below (T47.setTop (mkF m 129 #[.val (.int p1), .val (.int p2), .val (.int (p1 &&& (3 : Int32))), .val (.ref s_DOWN_LEFT), .val (.ref s_DOWN), .val (.ref s_LEFT), .val (.int (p2 &&& (2147483647 : Int32))), .val (.ref (f1 (p2 &&& (2147483647 : Int32)) s_DOWN s_LEFT)), .val (.int (m0_11_0 p2)), .unset] [])) _
              refine XS.aload X47.here hx rfl (hb hby at_129) rfl rfl ?_
              exact k
            · rw [show (m0_52_0 p2 s_DOWN s_LEFT) = s_DOWN from by first | (rw [m0_52_0, if_neg hc53]; done) | (simp only [m0_52_0, if_neg hc53]; done) | rfl] at k
              refine pre51 t ?_
              show Steps p.tables e below (T47.setTop (mkF m 121 #[.val (.int p1), .val (.int p2), .val (.int (p1 &&& (3 : Int32))), .val (.ref s_DOWN_LEFT), .val (.ref s_DOWN), .val (.ref s_LEFT), .val (.int (p2 &&& (2147483647 : Int32))), .val (.ref (f1 (p2 &&& (2147483647 : Int32)) s_DOWN s_LEFT)), .val (.int (m0_11_0 p2)), .unset] [(.int (m0_11_0 p2))])) _
              refine XS.ifNo X47.here hx rfl (hb hby at_121) rfl ((if0 _ _).trans (feq hc53).1) ?_
              show Steps p.tables e below (T47.setTop (mkF m 124 #[.val (.int p1), .val (.int p2), .val (.int (p1 &&& (3 : Int32))), .val (.ref s_DOWN_LEFT), .val (.ref s_DOWN), .val (.ref s_LEFT), .val (.int (p2 &&& (2147483647 : Int32))), .val (.ref (f1 (p2 &&& (2147483647 : Int32)) s_DOWN s_LEFT)), .val (.int (m0_11_0 p2)), .unset] [])) _
              refine XS.aload X47.here hx rfl (hb hby at_124) rfl rfl ?_
              show Steps p.tables e below (T47.setTop (mkF m 126 #[.val (.int p1), .val (.int p2), .val (.int (p1 &&& (3 : Int32))), .val (.ref s_DOWN_LEFT), .val (.ref s_DOWN), .val (.ref s_LEFT), .val (.int (p2 &&& (2147483647 : Int32))), .val (.ref (f1 (p2 &&& (2147483647 : Int32)) s_DOWN s_LEFT)), .val (.int (m0_11_0 p2)), .unset] [(.ref s_DOWN)])) _
              refine XS.goto X47.here hx rfl (pc0 := 126) (pc' := 131) rfl (hb hby at_126) (by decide) (by decide) ?_
              exact k
          have pre54 : ∀ t, Steps p.tables e below (T47.setTop (mkF m 137 #[.val (.int p1), .val (.int p2), .val (.int (p1 &&& (3 : Int32))), .val (.ref s_DOWN_LEFT), .val (.ref s_DOWN), .val (.ref s_LEFT), .val (.int (p2 &&& (2147483647 : Int32))), .val (.ref (f1 (p2 &&& (2147483647 : Int32)) s_DOWN s_LEFT)), .val (.int (m0_11_0 p2)), .val (.ref (m0_52_0 p2 s_DOWN s_LEFT))] [(.ref (m0_52_0 p2 s_DOWN s_LEFT)), (.ref (f1 (p2 &&& (2147483647 : Int32)) s_DOWN s_LEFT))])) t → Steps p.tables e below (s₁.setTop (entryFrame m #[(.int p1), (.int p2)] maxLocals)) t := fun t k => pre52 t (by
            show Steps p.tables e below (T47.setTop (mkF m 131 #[.val (.int p1), .val (.int p2), .val (.int (p1 &&& (3 : Int32))), .val (.ref s_DOWN_LEFT), .val (.ref s_DOWN), .val (.ref s_LEFT), .val (.int (p2 &&& (2147483647 : Int32))), .val (.ref (f1 (p2 &&& (2147483647 : Int32)) s_DOWN s_LEFT)), .val (.int (m0_11_0 p2)), .unset] [(.ref (m0_52_0 p2 s_DOWN s_LEFT))])) _
            refine XS.astore X47.here hx rfl (hb hby at_131) rfl rfl (l' := #[.val (.int p1), .val (.int p2), .val (.int (p1 &&& (3 : Int32))), .val (.ref s_DOWN_LEFT), .val (.ref s_DOWN), .val (.ref s_LEFT), .val (.int (p2 &&& (2147483647 : Int32))), .val (.ref (f1 (p2 &&& (2147483647 : Int32)) s_DOWN s_LEFT)), .val (.int (m0_11_0 p2)), .val (.ref (m0_52_0 p2 s_DOWN s_LEFT))]) rfl ?_
            show Steps p.tables e below (T47.setTop (mkF m 133 #[.val (.int p1), .val (.int p2), .val (.int (p1 &&& (3 : Int32))), .val (.ref s_DOWN_LEFT), .val (.ref s_DOWN), .val (.ref s_LEFT), .val (.int (p2 &&& (2147483647 : Int32))), .val (.ref (f1 (p2 &&& (2147483647 : Int32)) s_DOWN s_LEFT)), .val (.int (m0_11_0 p2)), .val (.ref (m0_52_0 p2 s_DOWN s_LEFT))] [])) _
            refine XS.aload X47.here hx rfl (hb hby at_133) rfl rfl ?_
            show Steps p.tables e below (T47.setTop (mkF m 135 #[.val (.int p1), .val (.int p2), .val (.int (p1 &&& (3 : Int32))), .val (.ref s_DOWN_LEFT), .val (.ref s_DOWN), .val (.ref s_LEFT), .val (.int (p2 &&& (2147483647 : Int32))), .val (.ref (f1 (p2 &&& (2147483647 : Int32)) s_DOWN s_LEFT)), .val (.int (m0_11_0 p2)), .val (.ref (m0_52_0 p2 s_DOWN s_LEFT))] [(.ref (f1 (p2 &&& (2147483647 : Int32)) s_DOWN s_LEFT))])) _
            refine XS.aload X47.here hx rfl (hb hby at_135) rfl rfl ?_
            exact k)
          by_cases hc55 : (f1 (p2 &&& (2147483647 : Int32)) s_DOWN s_LEFT) = (m0_52_0 p2 s_DOWN s_LEFT)
          · obtain ⟨fs, hr, hrun, hended, hW, hsame⟩ := X47.leave (v := some (.int (1 : Int32))) (fun h => by rw [Bd.returns] at h; cases h)
            refine ⟨_, _, pre54 _ ?_, hrun, hended, _, _, rfl, ?_, ⟨_, rfl⟩, hW, hsame.mono (by decide) (by decide)⟩
            · show Steps p.tables e below (T47.setTop (mkF m 137 #[.val (.int p1), .val (.int p2), .val (.int (p1 &&& (3 : Int32))), .val (.ref s_DOWN_LEFT), .val (.ref s_DOWN), .val (.ref s_LEFT), .val (.int (p2 &&& (2147483647 : Int32))), .val (.ref (f1 (p2 &&& (2147483647 : Int32)) s_DOWN s_LEFT)), .val (.int (m0_11_0 p2)), .val (.ref (m0_52_0 p2 s_DOWN s_LEFT))] [(.ref (m0_52_0 p2 s_DOWN s_LEFT)), (.ref (f1 (p2 &&& (2147483647 : Int32)) s_DOWN s_LEFT))])) _
              refine Jvm.RoadKit.acmp (g := (mkF m 137 #[.val (.int p1), .val (.int p2), .val (.int (p1 &&& (3 : Int32))), .val (.ref s_DOWN_LEFT), .val (.ref s_DOWN), .val (.ref s_LEFT), .val (.int (p2 &&& (2147483647 : Int32))), .val (.ref (f1 (p2 &&& (2147483647 : Int32)) s_DOWN s_LEFT)), .val (.int (m0_11_0 p2)), .val (.ref (m0_52_0 p2 s_DOWN s_LEFT))] [(.ref (m0_52_0 p2 s_DOWN s_LEFT)), (.ref (f1 (p2 &&& (2147483647 : Int32)) s_DOWN s_LEFT))])) X47 hx rfl rfl rfl (pc0 := 137) (pc' := 140) (same := true) rfl (hb hby at_137) rfl (decide_eq_true (congrArg Value.ref hc55)) (by decide) (by decide) ?_
              show Steps p.tables e below (T47.setTop (mkF m 140 #[.val (.int p1), .val (.int p2), .val (.int (p1 &&& (3 : Int32))), .val (.ref s_DOWN_LEFT), .val (.ref s_DOWN), .val (.ref s_LEFT), .val (.int (p2 &&& (2147483647 : Int32))), .val (.ref (f1 (p2 &&& (2147483647 : Int32)) s_DOWN s_LEFT)), .val (.int (m0_11_0 p2)), .val (.ref (m0_52_0 p2 s_DOWN s_LEFT))] [])) _
              refine XS.iconst X47.here hx rfl (hb hby at_140) ?_
              show Steps p.tables e below (T47.setTop (mkF m 141 #[.val (.int p1), .val (.int p2), .val (.int (p1 &&& (3 : Int32))), .val (.ref s_DOWN_LEFT), .val (.ref s_DOWN), .val (.ref s_LEFT), .val (.int (p2 &&& (2147483647 : Int32))), .val (.ref (f1 (p2 &&& (2147483647 : Int32)) s_DOWN s_LEFT)), .val (.int (m0_11_0 p2)), .val (.ref (m0_52_0 p2 s_DOWN s_LEFT))] [(.int (1 : Int32))])) _
              refine XS.goto X47.here hx rfl (pc0 := 141) (pc' := 145) rfl (hb hby at_141) (by decide) (by decide) ?_
              show Steps p.tables e below (T47.setTop (mkF m 145 #[.val (.int p1), .val (.int p2), .val (.int (p1 &&& (3 : Int32))), .val (.ref s_DOWN_LEFT), .val (.ref s_DOWN), .val (.ref s_LEFT), .val (.int (p2 &&& (2147483647 : Int32))), .val (.ref (f1 (p2 &&& (2147483647 : Int32)) s_DOWN s_LEFT)), .val (.int (m0_11_0 p2)), .val (.ref (m0_52_0 p2 s_DOWN s_LEFT))] [(.int (1 : Int32))])) _
              exact retN X47 hx (t := .boolean) Bd.returns (by simp) (hb hby at_145) hr
            · show Q0 Z p1 p2 s_UP_RIGHT s_UP s_RIGHT s_DOWN_LEFT s_DOWN s_LEFT s_DOWN_RIGHT s_UP_LEFT h0 n0 _ T47.heap _
              rw [e47]
              exact ⟨by rw [show (f0 p1 p2 s_UP s_RIGHT s_DOWN s_LEFT) = (1 : Int32) from by first | (rw [f0, if_neg hc2, if_neg hc21, if_pos hc40, if_neg hc45, if_pos hc55]; done) | (simp only [f0, if_neg hc2, if_neg hc21, if_pos hc40, if_neg hc45, if_pos hc55]; done) | rfl], N47⟩
          · obtain ⟨fs, hr, hrun, hended, hW, hsame⟩ := X47.leave (v := some (.int (0 : Int32))) (fun h => by rw [Bd.returns] at h; cases h)
            refine ⟨_, _, pre54 _ ?_, hrun, hended, _, _, rfl, ?_, ⟨_, rfl⟩, hW, hsame.mono (by decide) (by decide)⟩
            · show Steps p.tables e below (T47.setTop (mkF m 137 #[.val (.int p1), .val (.int p2), .val (.int (p1 &&& (3 : Int32))), .val (.ref s_DOWN_LEFT), .val (.ref s_DOWN), .val (.ref s_LEFT), .val (.int (p2 &&& (2147483647 : Int32))), .val (.ref (f1 (p2 &&& (2147483647 : Int32)) s_DOWN s_LEFT)), .val (.int (m0_11_0 p2)), .val (.ref (m0_52_0 p2 s_DOWN s_LEFT))] [(.ref (m0_52_0 p2 s_DOWN s_LEFT)), (.ref (f1 (p2 &&& (2147483647 : Int32)) s_DOWN s_LEFT))])) _
              refine Jvm.RoadKit.acmp (g := (mkF m 137 #[.val (.int p1), .val (.int p2), .val (.int (p1 &&& (3 : Int32))), .val (.ref s_DOWN_LEFT), .val (.ref s_DOWN), .val (.ref s_LEFT), .val (.int (p2 &&& (2147483647 : Int32))), .val (.ref (f1 (p2 &&& (2147483647 : Int32)) s_DOWN s_LEFT)), .val (.int (m0_11_0 p2)), .val (.ref (m0_52_0 p2 s_DOWN s_LEFT))] [(.ref (m0_52_0 p2 s_DOWN s_LEFT)), (.ref (f1 (p2 &&& (2147483647 : Int32)) s_DOWN s_LEFT))])) X47 hx rfl rfl rfl (pc0 := 137) (pc' := 144) (same := false) rfl (hb hby at_137) rfl (decide_eq_false fun q => hc55 (Value.ref.inj q)) (by decide) (by decide) ?_
              show Steps p.tables e below (T47.setTop (mkF m 144 #[.val (.int p1), .val (.int p2), .val (.int (p1 &&& (3 : Int32))), .val (.ref s_DOWN_LEFT), .val (.ref s_DOWN), .val (.ref s_LEFT), .val (.int (p2 &&& (2147483647 : Int32))), .val (.ref (f1 (p2 &&& (2147483647 : Int32)) s_DOWN s_LEFT)), .val (.int (m0_11_0 p2)), .val (.ref (m0_52_0 p2 s_DOWN s_LEFT))] [])) _
              refine XS.iconst X47.here hx rfl (hb hby at_144) ?_
              show Steps p.tables e below (T47.setTop (mkF m 145 #[.val (.int p1), .val (.int p2), .val (.int (p1 &&& (3 : Int32))), .val (.ref s_DOWN_LEFT), .val (.ref s_DOWN), .val (.ref s_LEFT), .val (.int (p2 &&& (2147483647 : Int32))), .val (.ref (f1 (p2 &&& (2147483647 : Int32)) s_DOWN s_LEFT)), .val (.int (m0_11_0 p2)), .val (.ref (m0_52_0 p2 s_DOWN s_LEFT))] [(.int (0 : Int32))])) _
              exact retN X47 hx (t := .boolean) Bd.returns (by simp) (hb hby at_145) hr
            · show Q0 Z p1 p2 s_UP_RIGHT s_UP s_RIGHT s_DOWN_LEFT s_DOWN s_LEFT s_DOWN_RIGHT s_UP_LEFT h0 n0 _ T47.heap _
              rw [e47]
              exact ⟨by rw [show (f0 p1 p2 s_UP s_RIGHT s_DOWN s_LEFT) = (0 : Int32) from by first | (rw [f0, if_neg hc2, if_neg hc21, if_pos hc40, if_neg hc45, if_neg hc55]; done) | (simp only [f0, if_neg hc2, if_neg hc21, if_pos hc40, if_neg hc45, if_neg hc55]; done) | rfl], N47⟩
      · obtain ⟨T58, X58, e58, st58⟩ := getS2 X0 hx hZ hown (host := "") (Or.inl (hw _ (List.mem_of_getElem? (i := 26) rfl))) Via.refl e0 (zS_UP_LEFT.ext O0.2) (g := (mkF m 69 #[.val (.int p1), .val (.int p2), .val (.int (p1 &&& (3 : Int32))), .unset, .unset, .unset, .unset, .unset, .unset, .unset] [])) rfl (hb hby at_69)
        obtain ⟨T59, X59, e59, st59⟩ := getS2 X58 hx hZ hown (host := "") (Or.inl (hw _ (List.mem_of_getElem? (i := 3) rfl))) Via.refl e58 (zS_UP.ext O0.2) (g := (mkF m 73 #[.val (.int p1), .val (.int p2), .val (.int (p1 &&& (3 : Int32))), .val (.ref s_UP_LEFT), .unset, .unset, .unset, .unset, .unset, .unset] [])) rfl (hb hby at_73)
        obtain ⟨T60, X60, e60, st60⟩ := getS2 X59 hx hZ hown (host := "") (Or.inl (hw _ (List.mem_of_getElem? (i := 20) rfl))) Via.refl e59 (zS_LEFT.ext O0.2) (g := (mkF m 78 #[.val (.int p1), .val (.int p2), .val (.int (p1 &&& (3 : Int32))), .val (.ref s_UP_LEFT), .val (.ref s_UP), .unset, .unset, .unset, .unset, .unset] [])) rfl (hb hby at_78)
        have pre61 : ∀ t, Steps p.tables e below (T60.setTop (mkF m 91 #[.val (.int p1), .val (.int p2), .val (.int (p1 &&& (3 : Int32))), .val (.ref s_UP_LEFT), .val (.ref s_UP), .val (.ref s_LEFT), .val (.int (p2 &&& (2147483647 : Int32))), .unset, .unset, .unset] [(.int (p2 &&& (2147483647 : Int32)))])) t → Steps p.tables e below (s₁.setTop (entryFrame m #[(.int p1), (.int p2)] maxLocals)) t := fun t k => pre39 t (by
          show Steps p.tables e below (s₁.setTop (mkF m 49 #[.val (.int p1), .val (.int p2), .val (.int (p1 &&& (3 : Int32))), .unset, .unset, .unset, .unset, .unset, .unset, .unset] [(.int (2 : Int32)), (.int (p1 &&& (3 : Int32)))])) _
          refine XS.icmpYes X0.here hx rfl (pc0 := 49) (pc' := 69) rfl (hb hby at_49) rfl (feq hc40).2 (by decide) (by decide) ?_
          show Steps p.tables e below (s₁.setTop (mkF m 69 #[.val (.int p1), .val (.int p2), .val (.int (p1 &&& (3 : Int32))), .unset, .unset, .unset, .unset, .unset, .unset, .unset] [])) _
          refine st58 _ ?_
          show Steps p.tables e below (T58.setTop (mkF m 72 #[.val (.int p1), .val (.int p2), .val (.int (p1 &&& (3 : Int32))), .unset, .unset, .unset, .unset, .unset, .unset, .unset] [(.ref s_UP_LEFT)])) _
          refine XS.astoreN X58.here hx rfl (hb hby at_72) rfl rfl (l' := #[.val (.int p1), .val (.int p2), .val (.int (p1 &&& (3 : Int32))), .val (.ref s_UP_LEFT), .unset, .unset, .unset, .unset, .unset, .unset]) rfl ?_
          show Steps p.tables e below (T58.setTop (mkF m 73 #[.val (.int p1), .val (.int p2), .val (.int (p1 &&& (3 : Int32))), .val (.ref s_UP_LEFT), .unset, .unset, .unset, .unset, .unset, .unset] [])) _
          refine st59 _ ?_
          show Steps p.tables e below (T59.setTop (mkF m 76 #[.val (.int p1), .val (.int p2), .val (.int (p1 &&& (3 : Int32))), .val (.ref s_UP_LEFT), .unset, .unset, .unset, .unset, .unset, .unset] [(.ref s_UP)])) _
          refine XS.astore X59.here hx rfl (hb hby at_76) rfl rfl (l' := #[.val (.int p1), .val (.int p2), .val (.int (p1 &&& (3 : Int32))), .val (.ref s_UP_LEFT), .val (.ref s_UP), .unset, .unset, .unset, .unset, .unset]) rfl ?_
          show Steps p.tables e below (T59.setTop (mkF m 78 #[.val (.int p1), .val (.int p2), .val (.int (p1 &&& (3 : Int32))), .val (.ref s_UP_LEFT), .val (.ref s_UP), .unset, .unset, .unset, .unset, .unset] [])) _
          refine st60 _ ?_
          show Steps p.tables e below (T60.setTop (mkF m 81 #[.val (.int p1), .val (.int p2), .val (.int (p1 &&& (3 : Int32))), .val (.ref s_UP_LEFT), .val (.ref s_UP), .unset, .unset, .unset, .unset, .unset] [(.ref s_LEFT)])) _
          refine XS.astore X60.here hx rfl (hb hby at_81) rfl rfl (l' := #[.val (.int p1), .val (.int p2), .val (.int (p1 &&& (3 : Int32))), .val (.ref s_UP_LEFT), .val (.ref s_UP), .val (.ref s_LEFT), .unset, .unset, .unset, .unset]) rfl ?_
          show Steps p.tables e below (T60.setTop (mkF m 83 #[.val (.int p1), .val (.int p2), .val (.int (p1 &&& (3 : Int32))), .val (.ref s_UP_LEFT), .val (.ref s_UP), .val (.ref s_LEFT), .unset, .unset, .unset, .unset] [])) _
          refine XS.iloadN X60.here hx rfl (hb hby at_83) rfl ?_
          show Steps p.tables e below (T60.setTop (mkF m 84 #[.val (.int p1), .val (.int p2), .val (.int (p1 &&& (3 : Int32))), .val (.ref s_UP_LEFT), .val (.ref s_UP), .val (.ref s_LEFT), .unset, .unset, .unset, .unset] [(.int p2)])) _
          refine X60.ldcInt hx hown (mvT hZ (hw _ (List.mem_of_getElem? (i := 8) rfl))) (g := (mkF m 84 #[.val (.int p1), .val (.int p2), .val (.int (p1 &&& (3 : Int32))), .val (.ref s_UP_LEFT), .val (.ref s_UP), .val (.ref s_LEFT), .unset, .unset, .unset, .unset] [(.int p2)])) rfl (hb hby at_84) _ ?_
          show Steps p.tables e below (T60.setTop (mkF m 86 #[.val (.int p1), .val (.int p2), .val (.int (p1 &&& (3 : Int32))), .val (.ref s_UP_LEFT), .val (.ref s_UP), .val (.ref s_LEFT), .unset, .unset, .unset, .unset] [(.int (2147483647 : Int32)), (.int p2)])) _
          refine XS.iand X60.here hx rfl (hb hby at_86) rfl ?_
          show Steps p.tables e below (T60.setTop (mkF m 87 #[.val (.int p1), .val (.int p2), .val (.int (p1 &&& (3 : Int32))), .val (.ref s_UP_LEFT), .val (.ref s_UP), .val (.ref s_LEFT), .unset, .unset, .unset, .unset] [(.int (p2 &&& (2147483647 : Int32)))])) _
          refine XS.istore X60.here hx rfl (hb hby at_87) rfl (l' := #[.val (.int p1), .val (.int p2), .val (.int (p1 &&& (3 : Int32))), .val (.ref s_UP_LEFT), .val (.ref s_UP), .val (.ref s_LEFT), .val (.int (p2 &&& (2147483647 : Int32))), .unset, .unset, .unset]) rfl ?_
          show Steps p.tables e below (T60.setTop (mkF m 89 #[.val (.int p1), .val (.int p2), .val (.int (p1 &&& (3 : Int32))), .val (.ref s_UP_LEFT), .val (.ref s_UP), .val (.ref s_LEFT), .val (.int (p2 &&& (2147483647 : Int32))), .unset, .unset, .unset] [])) _
          refine XS.iload X60.here hx rfl (hb hby at_89) rfl ?_
          exact k)
        by_cases hc62 : (p2 &&& (2147483647 : Int32)) = (0 : Int32)
        · obtain ⟨fs, hr, hrun, hended, hW, hsame⟩ := X60.leave (v := some (.int (1 : Int32))) (fun h => by rw [Bd.returns] at h; cases h)
          refine ⟨_, _, pre61 _ ?_, hrun, hended, _, _, rfl, ?_, ⟨_, rfl⟩, hW, hsame.mono (by decide) (by decide)⟩
          · show Steps p.tables e below (T60.setTop (mkF m 91 #[.val (.int p1), .val (.int p2), .val (.int (p1 &&& (3 : Int32))), .val (.ref s_UP_LEFT), .val (.ref s_UP), .val (.ref s_LEFT), .val (.int (p2 &&& (2147483647 : Int32))), .unset, .unset, .unset] [(.int (p2 &&& (2147483647 : Int32)))])) _
            refine XS.ifNo X60.here hx rfl (hb hby at_91) rfl ((if0 _ _).trans (teq hc62).2) ?_
            show Steps p.tables e below (T60.setTop (mkF m 94 #[.val (.int p1), .val (.int p2), .val (.int (p1 &&& (3 : Int32))), .val (.ref s_UP_LEFT), .val (.ref s_UP), .val (.ref s_LEFT), .val (.int (p2 &&& (2147483647 : Int32))), .unset, .unset, .unset] [])) _
            refine XS.iconst X60.here hx rfl (hb hby at_94) ?_
            show Steps p.tables e below (T60.setTop (mkF m 95 #[.val (.int p1), .val (.int p2), .val (.int (p1 &&& (3 : Int32))), .val (.ref s_UP_LEFT), .val (.ref s_UP), .val (.ref s_LEFT), .val (.int (p2 &&& (2147483647 : Int32))), .unset, .unset, .unset] [(.int (1 : Int32))])) _
            exact retN X60 hx (t := .boolean) Bd.returns (by simp) (hb hby at_95) hr
          · show Q0 Z p1 p2 s_UP_RIGHT s_UP s_RIGHT s_DOWN_LEFT s_DOWN s_LEFT s_DOWN_RIGHT s_UP_LEFT h0 n0 _ T60.heap _
            rw [e60]
            exact ⟨by rw [show (f0 p1 p2 s_UP s_RIGHT s_DOWN s_LEFT) = (1 : Int32) from by first | (rw [f0, if_neg hc2, if_neg hc21, if_neg hc40, if_pos hc62]; done) | (simp only [f0, if_neg hc2, if_neg hc21, if_neg hc40, if_pos hc62]; done) | rfl], N0⟩
        · obtain ⟨cq64, kq64, q64a, q64b, q64c⟩ := isOf hZ e60 (zE_s_UP_LEFT.ext O0.2)
          obtain ⟨_, _, ⟨T64, L64, k64, n64⟩, -, X64, ⟨Lc64, hQ64, l64, y64, z64⟩, st64⟩ := X60.virtualBack hx (y := (⟨"com/example/parlour/parlour/frenzy/Diagonal", "way", "(I)Lcom/example/parlour/parlour/frenzy/Direction;"⟩ : MethodName)) (z := (⟨"com/example/parlour/parlour/frenzy/Diagonal", "way", "(I)Lcom/example/parlour/parlour/frenzy/Direction;"⟩ : MethodName)) hown (mvT hZ (hw _ (List.mem_of_getElem? (i := 9) rfl))) (mvT hZ (hw _ (List.mem_of_getElem? (i := 10) rfl))) (notFace_of_selects (args := #[]) (mvT hZ (hw _ (List.mem_of_getElem? (i := 12) rfl)))) (mvT hZ (hw _ (List.mem_of_getElem? (i := 12) rfl))) (mvT hZ (hw _ (List.mem_of_getElem? (i := 11) rfl))) (by decide) (backOf (W := 0) (rm1 l Z a0 hw [] s_UP_LEFT (p2 &&& (2147483647 : Int32)) s_UP s_LEFT h0 n0 Z0 (zF_s_UP_LEFT_vertical.ext O0.2) (zF_s_UP_LEFT_horizontal.ext O0.2)) hZ (hw _ (List.mem_of_getElem? (i := 13) rfl)) (hw _ (List.mem_of_getElem? (i := 1) rfl)) (by decide) (by decide)) q64a q64c (g := (mkF m 99 #[.val (.int p1), .val (.int p2), .val (.int (p1 &&& (3 : Int32))), .val (.ref s_UP_LEFT), .val (.ref s_UP), .val (.ref s_LEFT), .val (.int (p2 &&& (2147483647 : Int32))), .unset, .unset, .unset] [(.int (p2 &&& (2147483647 : Int32))), (.ref s_UP_LEFT)])) rfl (by rw [hml]; rfl) (Steps.refl _) (argsL := [(.int (p2 &&& (2147483647 : Int32)))]) (rest := []) (lenOf pd_0 rfl) rfl (by show 2 * 0 + _ ≤ _; exact Nat.le_of_eq rfl) (hb hby at_99) (fun _ _ => ⟨rfl, e60, (by decide : 0 + 0 ≤ _), (by decide : 0 + 0 ≤ _)⟩)
          dsimp only [Pt.U, Pt.locs, Pt.cells, Pt.slots] at X64 l64 y64 z64 st64 hQ64
          subst l64 y64 z64
          obtain ⟨rfl, N64q, e64⟩ := hQ64
          have N64 := Fr.app N0 N64q
          have pre65 : ∀ t, Steps p.tables e below (T64.setTop (mkF m 109 #[.val (.int p1), .val (.int p2), .val (.int (p1 &&& (3 : Int32))), .val (.ref s_UP_LEFT), .val (.ref s_UP), .val (.ref s_LEFT), .val (.int (p2 &&& (2147483647 : Int32))), .val (.ref (f1 (p2 &&& (2147483647 : Int32)) s_UP s_LEFT)), .unset, .unset] [(.int (1 : Int32)), (.int ((p2 &&& (2147483647 : Int32)) &&& (1 : Int32)))])) t → Steps p.tables e below (s₁.setTop (entryFrame m #[(.int p1), (.int p2)] maxLocals)) t := fun t k => pre61 t (by
            show Steps p.tables e below (T60.setTop (mkF m 91 #[.val (.int p1), .val (.int p2), .val (.int (p1 &&& (3 : Int32))), .val (.ref s_UP_LEFT), .val (.ref s_UP), .val (.ref s_LEFT), .val (.int (p2 &&& (2147483647 : Int32))), .unset, .unset, .unset] [(.int (p2 &&& (2147483647 : Int32)))])) _
            refine XS.ifYes X60.here hx rfl (pc0 := 91) (pc' := 96) rfl (hb hby at_91) rfl ((if0 _ _).trans (feq hc62).2) (by decide) (by decide) ?_
            show Steps p.tables e below (T60.setTop (mkF m 96 #[.val (.int p1), .val (.int p2), .val (.int (p1 &&& (3 : Int32))), .val (.ref s_UP_LEFT), .val (.ref s_UP), .val (.ref s_LEFT), .val (.int (p2 &&& (2147483647 : Int32))), .unset, .unset, .unset] [])) _
            refine XS.aloadN X60.here hx rfl (hb hby at_96) rfl rfl ?_
            show Steps p.tables e below (T60.setTop (mkF m 97 #[.val (.int p1), .val (.int p2), .val (.int (p1 &&& (3 : Int32))), .val (.ref s_UP_LEFT), .val (.ref s_UP), .val (.ref s_LEFT), .val (.int (p2 &&& (2147483647 : Int32))), .unset, .unset, .unset] [(.ref s_UP_LEFT)])) _
            refine XS.iload X60.here hx rfl (hb hby at_97) rfl ?_
            show Steps p.tables e below (T60.setTop (mkF m 99 #[.val (.int p1), .val (.int p2), .val (.int (p1 &&& (3 : Int32))), .val (.ref s_UP_LEFT), .val (.ref s_UP), .val (.ref s_LEFT), .val (.int (p2 &&& (2147483647 : Int32))), .unset, .unset, .unset] [(.int (p2 &&& (2147483647 : Int32))), (.ref s_UP_LEFT)])) _
            refine st64.trans ?_
            show Steps p.tables e below (T64.setTop (mkF m 102 #[.val (.int p1), .val (.int p2), .val (.int (p1 &&& (3 : Int32))), .val (.ref s_UP_LEFT), .val (.ref s_UP), .val (.ref s_LEFT), .val (.int (p2 &&& (2147483647 : Int32))), .unset, .unset, .unset] [(.ref (f1 (p2 &&& (2147483647 : Int32)) s_UP s_LEFT))])) _
            refine XS.astore X64.here hx rfl (hb hby at_102) rfl rfl (l' := #[.val (.int p1), .val (.int p2), .val (.int (p1 &&& (3 : Int32))), .val (.ref s_UP_LEFT), .val (.ref s_UP), .val (.ref s_LEFT), .val (.int (p2 &&& (2147483647 : Int32))), .val (.ref (f1 (p2 &&& (2147483647 : Int32)) s_UP s_LEFT)), .unset, .unset]) rfl ?_
            show Steps p.tables e below (T64.setTop (mkF m 104 #[.val (.int p1), .val (.int p2), .val (.int (p1 &&& (3 : Int32))), .val (.ref s_UP_LEFT), .val (.ref s_UP), .val (.ref s_LEFT), .val (.int (p2 &&& (2147483647 : Int32))), .val (.ref (f1 (p2 &&& (2147483647 : Int32)) s_UP s_LEFT)), .unset, .unset] [])) _
            refine XS.iload X64.here hx rfl (hb hby at_104) rfl ?_
            show Steps p.tables e below (T64.setTop (mkF m 106 #[.val (.int p1), .val (.int p2), .val (.int (p1 &&& (3 : Int32))), .val (.ref s_UP_LEFT), .val (.ref s_UP), .val (.ref s_LEFT), .val (.int (p2 &&& (2147483647 : Int32))), .val (.ref (f1 (p2 &&& (2147483647 : Int32)) s_UP s_LEFT)), .unset, .unset] [(.int (p2 &&& (2147483647 : Int32)))])) _
            refine XS.iconst X64.here hx rfl (hb hby at_106) ?_
            show Steps p.tables e below (T64.setTop (mkF m 107 #[.val (.int p1), .val (.int p2), .val (.int (p1 &&& (3 : Int32))), .val (.ref s_UP_LEFT), .val (.ref s_UP), .val (.ref s_LEFT), .val (.int (p2 &&& (2147483647 : Int32))), .val (.ref (f1 (p2 &&& (2147483647 : Int32)) s_UP s_LEFT)), .unset, .unset] [(.int (1 : Int32)), (.int (p2 &&& (2147483647 : Int32)))])) _
            refine XS.iand X64.here hx rfl (hb hby at_107) rfl ?_
            show Steps p.tables e below (T64.setTop (mkF m 108 #[.val (.int p1), .val (.int p2), .val (.int (p1 &&& (3 : Int32))), .val (.ref s_UP_LEFT), .val (.ref s_UP), .val (.ref s_LEFT), .val (.int (p2 &&& (2147483647 : Int32))), .val (.ref (f1 (p2 &&& (2147483647 : Int32)) s_UP s_LEFT)), .unset, .unset] [(.int ((p2 &&& (2147483647 : Int32)) &&& (1 : Int32)))])) _
            refine XS.iconst X64.here hx rfl (hb hby at_108) ?_
            exact k)
          have pre66 : ∀ t, Steps p.tables e below (T64.setTop (mkF m 117 #[.val (.int p1), .val (.int p2), .val (.int (p1 &&& (3 : Int32))), .val (.ref s_UP_LEFT), .val (.ref s_UP), .val (.ref s_LEFT), .val (.int (p2 &&& (2147483647 : Int32))), .val (.ref (f1 (p2 &&& (2147483647 : Int32)) s_UP s_LEFT)), .unset, .unset] [(.int (m0_11_0 p2))])) t → Steps p.tables e below (s₁.setTop (entryFrame m #[(.int p1), (.int p2)] maxLocals)) t := by
            intro t k
            by_cases hc67 : ((p2 &&& (2147483647 : Int32)) &&& (1 : Int32)) = (1 : Int32)
            · rw [show (m0_11_0 p2) = (1 : Int32) from by first | (rw [m0_11_0, if_pos hc67]; done) | (simp only [m0_11_0, if_pos hc67]; done) | rfl] at k
              refine pre65 t ?_
              show Steps p.tables e below (T64.setTop (mkF m 109 #[.val (.int p1), .val (.int p2), .val (.int (p1 &&& (3 : Int32))), .val (.ref s_UP_LEFT), .val (.ref s_UP), .val (.ref s_LEFT), .val (.int (p2 &&& (2147483647 : Int32))), .val (.ref (f1 (p2 &&& (2147483647 : Int32)) s_UP s_LEFT)), .unset, .unset] [(.int (1 : Int32)), (.int ((p2 &&& (2147483647 : Int32)) &&& (1 : Int32)))])) _
              refine XS.icmpNo X64.here hx rfl (hb hby at_109) rfl (teq hc67).2 ?_
              show Steps p.tables e below (T64.setTop (mkF m 112 #[.val (.int p1), .val (.int p2), .val (.int (p1 &&& (3 : Int32))), .val (.ref s_UP_LEFT), .val (.ref s_UP), .val (.ref s_LEFT), .val (.int (p2 &&& (2147483647 : Int32))), .val (.ref (f1 (p2 &&& (2147483647 : Int32)) s_UP s_LEFT)), .unset, .unset] [])) _
              refine XS.iconst X64.here hx rfl (hb hby at_112) ?_
              show Steps p.tables e below (T64.setTop (mkF m 113 #[.val (.int p1), .val (.int p2), .val (.int (p1 &&& (3 : Int32))), .val (.ref s_UP_LEFT), .val (.ref s_UP), .val (.ref s_LEFT), .val (.int (p2 &&& (2147483647 : Int32))), .val (.ref (f1 (p2 &&& (2147483647 : Int32)) s_UP s_LEFT)), .unset, .unset] [(.int (1 : Int32))])) _
              refine XS.goto X64.here hx rfl (pc0 := 113) (pc' := 117) rfl (hb hby at_113) (by decide) (by decide) ?_
              exact k
            · rw [show (m0_11_0 p2) = (0 : Int32) from by first | (rw [m0_11_0, if_neg hc67]; done) | (simp only [m0_11_0, if_neg hc67]; done) | rfl] at k
              refine pre65 t ?_
              show Steps p.tables e below (T64.setTop (mkF m 109 #[.val (.int p1), .val (.int p2), .val (.int (p1 &&& (3 : Int32))), .val (.ref s_UP_LEFT), .val (.ref s_UP), .val (.ref s_LEFT), .val (.int (p2 &&& (2147483647 : Int32))), .val (.ref (f1 (p2 &&& (2147483647 : Int32)) s_UP s_LEFT)), .unset, .unset] [(.int (1 : Int32)), (.int ((p2 &&& (2147483647 : Int32)) &&& (1 : Int32)))])) _
              refine XS.icmpYes X64.here hx rfl (pc0 := 109) (pc' := 116) rfl (hb hby at_109) rfl (feq hc67).2 (by decide) (by decide) ?_
              show Steps p.tables e below (T64.setTop (mkF m 116 #[.val (.int p1), .val (.int p2), .val (.int (p1 &&& (3 : Int32))), .val (.ref s_UP_LEFT), .val (.ref s_UP), .val (.ref s_LEFT), .val (.int (p2 &&& (2147483647 : Int32))), .val (.ref (f1 (p2 &&& (2147483647 : Int32)) s_UP s_LEFT)), .unset, .unset] [])) _
              refine XS.iconst X64.here hx rfl (hb hby at_116) ?_
              exact k
          have pre68 : ∀ t, Steps p.tables e below (T64.setTop (mkF m 121 #[.val (.int p1), .val (.int p2), .val (.int (p1 &&& (3 : Int32))), .val (.ref s_UP_LEFT), .val (.ref s_UP), .val (.ref s_LEFT), .val (.int (p2 &&& (2147483647 : Int32))), .val (.ref (f1 (p2 &&& (2147483647 : Int32)) s_UP s_LEFT)), .val (.int (m0_11_0 p2)), .unset] [(.int (m0_11_0 p2))])) t → Steps p.tables e below (s₁.setTop (entryFrame m #[(.int p1), (.int p2)] maxLocals)) t := fun t k => pre66 t (by
            show Steps p.tables e below (T64.setTop (mkF m 117 #[.val (.int p1), .val (.int p2), .val (.int (p1 &&& (3 : Int32))), .val (.ref s_UP_LEFT), .val (.ref s_UP), .val (.ref s_LEFT), .val (.int (p2 &&& (2147483647 : Int32))), .val (.ref (f1 (p2 &&& (2147483647 : Int32)) s_UP s_LEFT)), .unset, .unset] [(.int (m0_11_0 p2))])) _
            refine XS.istore X64.here hx rfl (hb hby at_117) rfl (l' := #[.val (.int p1), .val (.int p2), .val (.int (p1 &&& (3 : Int32))), .val (.ref s_UP_LEFT), .val (.ref s_UP), .val (.ref s_LEFT), .val (.int (p2 &&& (2147483647 : Int32))), .val (.ref (f1 (p2 &&& (2147483647 : Int32)) s_UP s_LEFT)), .val (.int (m0_11_0 p2)), .unset]) rfl ?_
            show Steps p.tables e below (T64.setTop (mkF m 119 #[.val (.int p1), .val (.int p2), .val (.int (p1 &&& (3 : Int32))), .val (.ref s_UP_LEFT), .val (.ref s_UP), .val (.ref s_LEFT), .val (.int (p2 &&& (2147483647 : Int32))), .val (.ref (f1 (p2 &&& (2147483647 : Int32)) s_UP s_LEFT)), .val (.int (m0_11_0 p2)), .unset] [])) _
            refine XS.iload X64.here hx rfl (hb hby at_119) rfl ?_
            exact k)
          have pre69 : ∀ t, Steps p.tables e below (T64.setTop (mkF m 131 #[.val (.int p1), .val (.int p2), .val (.int (p1 &&& (3 : Int32))), .val (.ref s_UP_LEFT), .val (.ref s_UP), .val (.ref s_LEFT), .val (.int (p2 &&& (2147483647 : Int32))), .val (.ref (f1 (p2 &&& (2147483647 : Int32)) s_UP s_LEFT)), .val (.int (m0_11_0 p2)), .unset] [(.ref (m0_69_0 p2 s_UP s_LEFT))])) t → Steps p.tables e below (s₁.setTop (entryFrame m #[(.int p1), (.int p2)] maxLocals)) t := by
            intro t k
            by_cases hc70 : (m0_11_0 p2) = (0 : Int32)
            · rw [show (m0_69_0 p2 s_UP s_LEFT) = s_LEFT from by first | (rw [m0_69_0, if_pos hc70]; done) | (simp only [m0_69_0, if_pos hc70]; done) | rfl] at k
              refine pre68 t ?_
              show Steps p.tables e below (T64.setTop (mkF m 121 #[.val (.int p1), .val (.int p2), .val (.int (p1 &&& (3 : Int32))), .val (.ref s_UP_LEFT), .val (.ref s_UP), .val (.ref s_LEFT), .val (.int (p2 &&& (2147483647 : Int32))), .val (.ref (f1 (p2 &&& (2147483647 : Int32)) s_UP s_LEFT)), .val (.int (m0_11_0 p2)), .unset] [(.int (m0_11_0 p2))])) _
              refine XS.ifYes X64.here hx rfl (pc0 := 121) (pc' := 129) rfl (hb hby at_121) rfl ((if0 _ _).trans (teq hc70).1) (by decide) (by decide) ?_
              show Steps p.tables e below (T64.setTop (mkF m 129 #[.val (.int p1), .val (.int p2), .val (.int (p1 &&& (3 : Int32))), .val (.ref s_UP_LEFT), .val (.ref s_UP), .val (.ref s_LEFT), .val (.int (p2 &&& (2147483647 : Int32))), .val (.ref (f1 (p2 &&& (2147483647 : Int32)) s_UP s_LEFT)), .val (.int (m0_11_0 p2)), .unset] [])) _
              refine XS.aload X64.here hx rfl (hb hby at_129) rfl rfl ?_
              exact k
            · rw [show (m0_69_0 p2 s_UP s_LEFT) = s_UP from by first | (rw [m0_69_0, if_neg hc70]; done) | (simp only [m0_69_0, if_neg hc70]; done) | rfl] at k
              refine pre68 t ?_
              show Steps p.tables e below (T64.setTop (mkF m 121 #[.val (.int p1), .val (.int p2), .val (.int (p1 &&& (3 : Int32))), .val (.ref s_UP_LEFT), .val (.ref s_UP), .val (.ref s_LEFT), .val (.int (p2 &&& (2147483647 : Int32))), .val (.ref (f1 (p2 &&& (2147483647 : Int32)) s_UP s_LEFT)), .val (.int (m0_11_0 p2)), .unset] [(.int (m0_11_0 p2))])) _
              refine XS.ifNo X64.here hx rfl (hb hby at_121) rfl ((if0 _ _).trans (feq hc70).1) ?_
              show Steps p.tables e below (T64.setTop (mkF m 124 #[.val (.int p1), .val (.int p2), .val (.int (p1 &&& (3 : Int32))), .val (.ref s_UP_LEFT), .val (.ref s_UP), .val (.ref s_LEFT), .val (.int (p2 &&& (2147483647 : Int32))), .val (.ref (f1 (p2 &&& (2147483647 : Int32)) s_UP s_LEFT)), .val (.int (m0_11_0 p2)), .unset] [])) _
              refine XS.aload X64.here hx rfl (hb hby at_124) rfl rfl ?_
              show Steps p.tables e below (T64.setTop (mkF m 126 #[.val (.int p1), .val (.int p2), .val (.int (p1 &&& (3 : Int32))), .val (.ref s_UP_LEFT), .val (.ref s_UP), .val (.ref s_LEFT), .val (.int (p2 &&& (2147483647 : Int32))), .val (.ref (f1 (p2 &&& (2147483647 : Int32)) s_UP s_LEFT)), .val (.int (m0_11_0 p2)), .unset] [(.ref s_UP)])) _
              refine XS.goto X64.here hx rfl (pc0 := 126) (pc' := 131) rfl (hb hby at_126) (by decide) (by decide) ?_
              exact k
          have pre71 : ∀ t, Steps p.tables e below (T64.setTop (mkF m 137 #[.val (.int p1), .val (.int p2), .val (.int (p1 &&& (3 : Int32))), .val (.ref s_UP_LEFT), .val (.ref s_UP), .val (.ref s_LEFT), .val (.int (p2 &&& (2147483647 : Int32))), .val (.ref (f1 (p2 &&& (2147483647 : Int32)) s_UP s_LEFT)), .val (.int (m0_11_0 p2)), .val (.ref (m0_69_0 p2 s_UP s_LEFT))] [(.ref (m0_69_0 p2 s_UP s_LEFT)), (.ref (f1 (p2 &&& (2147483647 : Int32)) s_UP s_LEFT))])) t → Steps p.tables e below (s₁.setTop (entryFrame m #[(.int p1), (.int p2)] maxLocals)) t := fun t k => pre69 t (by
            show Steps p.tables e below (T64.setTop (mkF m 131 #[.val (.int p1), .val (.int p2), .val (.int (p1 &&& (3 : Int32))), .val (.ref s_UP_LEFT), .val (.ref s_UP), .val (.ref s_LEFT), .val (.int (p2 &&& (2147483647 : Int32))), .val (.ref (f1 (p2 &&& (2147483647 : Int32)) s_UP s_LEFT)), .val (.int (m0_11_0 p2)), .unset] [(.ref (m0_69_0 p2 s_UP s_LEFT))])) _
            refine XS.astore X64.here hx rfl (hb hby at_131) rfl rfl (l' := #[.val (.int p1), .val (.int p2), .val (.int (p1 &&& (3 : Int32))), .val (.ref s_UP_LEFT), .val (.ref s_UP), .val (.ref s_LEFT), .val (.int (p2 &&& (2147483647 : Int32))), .val (.ref (f1 (p2 &&& (2147483647 : Int32)) s_UP s_LEFT)), .val (.int (m0_11_0 p2)), .val (.ref (m0_69_0 p2 s_UP s_LEFT))]) rfl ?_
            show Steps p.tables e below (T64.setTop (mkF m 133 #[.val (.int p1), .val (.int p2), .val (.int (p1 &&& (3 : Int32))), .val (.ref s_UP_LEFT), .val (.ref s_UP), .val (.ref s_LEFT), .val (.int (p2 &&& (2147483647 : Int32))), .val (.ref (f1 (p2 &&& (2147483647 : Int32)) s_UP s_LEFT)), .val (.int (m0_11_0 p2)), .val (.ref (m0_69_0 p2 s_UP s_LEFT))] [])) _
            refine XS.aload X64.here hx rfl (hb hby at_133) rfl rfl ?_
            show Steps p.tables e below (T64.setTop (mkF m 135 #[.val (.int p1), .val (.int p2), .val (.int (p1 &&& (3 : Int32))), .val (.ref s_UP_LEFT), .val (.ref s_UP), .val (.ref s_LEFT), .val (.int (p2 &&& (2147483647 : Int32))), .val (.ref (f1 (p2 &&& (2147483647 : Int32)) s_UP s_LEFT)), .val (.int (m0_11_0 p2)), .val (.ref (m0_69_0 p2 s_UP s_LEFT))] [(.ref (f1 (p2 &&& (2147483647 : Int32)) s_UP s_LEFT))])) _
            refine XS.aload X64.here hx rfl (hb hby at_135) rfl rfl ?_
            exact k)
          by_cases hc72 : (f1 (p2 &&& (2147483647 : Int32)) s_UP s_LEFT) = (m0_69_0 p2 s_UP s_LEFT)
          · obtain ⟨fs, hr, hrun, hended, hW, hsame⟩ := X64.leave (v := some (.int (1 : Int32))) (fun h => by rw [Bd.returns] at h; cases h)
            refine ⟨_, _, pre71 _ ?_, hrun, hended, _, _, rfl, ?_, ⟨_, rfl⟩, hW, hsame.mono (by decide) (by decide)⟩
            · show Steps p.tables e below (T64.setTop (mkF m 137 #[.val (.int p1), .val (.int p2), .val (.int (p1 &&& (3 : Int32))), .val (.ref s_UP_LEFT), .val (.ref s_UP), .val (.ref s_LEFT), .val (.int (p2 &&& (2147483647 : Int32))), .val (.ref (f1 (p2 &&& (2147483647 : Int32)) s_UP s_LEFT)), .val (.int (m0_11_0 p2)), .val (.ref (m0_69_0 p2 s_UP s_LEFT))] [(.ref (m0_69_0 p2 s_UP s_LEFT)), (.ref (f1 (p2 &&& (2147483647 : Int32)) s_UP s_LEFT))])) _
              refine Jvm.RoadKit.acmp (g := (mkF m 137 #[.val (.int p1), .val (.int p2), .val (.int (p1 &&& (3 : Int32))), .val (.ref s_UP_LEFT), .val (.ref s_UP), .val (.ref s_LEFT), .val (.int (p2 &&& (2147483647 : Int32))), .val (.ref (f1 (p2 &&& (2147483647 : Int32)) s_UP s_LEFT)), .val (.int (m0_11_0 p2)), .val (.ref (m0_69_0 p2 s_UP s_LEFT))] [(.ref (m0_69_0 p2 s_UP s_LEFT)), (.ref (f1 (p2 &&& (2147483647 : Int32)) s_UP s_LEFT))])) X64 hx rfl rfl rfl (pc0 := 137) (pc' := 140) (same := true) rfl (hb hby at_137) rfl (decide_eq_true (congrArg Value.ref hc72)) (by decide) (by decide) ?_
              show Steps p.tables e below (T64.setTop (mkF m 140 #[.val (.int p1), .val (.int p2), .val (.int (p1 &&& (3 : Int32))), .val (.ref s_UP_LEFT), .val (.ref s_UP), .val (.ref s_LEFT), .val (.int (p2 &&& (2147483647 : Int32))), .val (.ref (f1 (p2 &&& (2147483647 : Int32)) s_UP s_LEFT)), .val (.int (m0_11_0 p2)), .val (.ref (m0_69_0 p2 s_UP s_LEFT))] [])) _
              refine XS.iconst X64.here hx rfl (hb hby at_140) ?_
              show Steps p.tables e below (T64.setTop (mkF m 141 #[.val (.int p1), .val (.int p2), .val (.int (p1 &&& (3 : Int32))), .val (.ref s_UP_LEFT), .val (.ref s_UP), .val (.ref s_LEFT), .val (.int (p2 &&& (2147483647 : Int32))), .val (.ref (f1 (p2 &&& (2147483647 : Int32)) s_UP s_LEFT)), .val (.int (m0_11_0 p2)), .val (.ref (m0_69_0 p2 s_UP s_LEFT))] [(.int (1 : Int32))])) _
              refine XS.goto X64.here hx rfl (pc0 := 141) (pc' := 145) rfl (hb hby at_141) (by decide) (by decide) ?_
              show Steps p.tables e below (T64.setTop (mkF m 145 #[.val (.int p1), .val (.int p2), .val (.int (p1 &&& (3 : Int32))), .val (.ref s_UP_LEFT), .val (.ref s_UP), .val (.ref s_LEFT), .val (.int (p2 &&& (2147483647 : Int32))), .val (.ref (f1 (p2 &&& (2147483647 : Int32)) s_UP s_LEFT)), .val (.int (m0_11_0 p2)), .val (.ref (m0_69_0 p2 s_UP s_LEFT))] [(.int (1 : Int32))])) _
              exact retN X64 hx (t := .boolean) Bd.returns (by simp) (hb hby at_145) hr
            · show Q0 Z p1 p2 s_UP_RIGHT s_UP s_RIGHT s_DOWN_LEFT s_DOWN s_LEFT s_DOWN_RIGHT s_UP_LEFT h0 n0 _ T64.heap _
              rw [e64]
              exact ⟨by rw [show (f0 p1 p2 s_UP s_RIGHT s_DOWN s_LEFT) = (1 : Int32) from by first | (rw [f0, if_neg hc2, if_neg hc21, if_neg hc40, if_neg hc62, if_pos hc72]; done) | (simp only [f0, if_neg hc2, if_neg hc21, if_neg hc40, if_neg hc62, if_pos hc72]; done) | rfl], N64⟩
          · obtain ⟨fs, hr, hrun, hended, hW, hsame⟩ := X64.leave (v := some (.int (0 : Int32))) (fun h => by rw [Bd.returns] at h; cases h)
            refine ⟨_, _, pre71 _ ?_, hrun, hended, _, _, rfl, ?_, ⟨_, rfl⟩, hW, hsame.mono (by decide) (by decide)⟩
            · show Steps p.tables e below (T64.setTop (mkF m 137 #[.val (.int p1), .val (.int p2), .val (.int (p1 &&& (3 : Int32))), .val (.ref s_UP_LEFT), .val (.ref s_UP), .val (.ref s_LEFT), .val (.int (p2 &&& (2147483647 : Int32))), .val (.ref (f1 (p2 &&& (2147483647 : Int32)) s_UP s_LEFT)), .val (.int (m0_11_0 p2)), .val (.ref (m0_69_0 p2 s_UP s_LEFT))] [(.ref (m0_69_0 p2 s_UP s_LEFT)), (.ref (f1 (p2 &&& (2147483647 : Int32)) s_UP s_LEFT))])) _
              refine Jvm.RoadKit.acmp (g := (mkF m 137 #[.val (.int p1), .val (.int p2), .val (.int (p1 &&& (3 : Int32))), .val (.ref s_UP_LEFT), .val (.ref s_UP), .val (.ref s_LEFT), .val (.int (p2 &&& (2147483647 : Int32))), .val (.ref (f1 (p2 &&& (2147483647 : Int32)) s_UP s_LEFT)), .val (.int (m0_11_0 p2)), .val (.ref (m0_69_0 p2 s_UP s_LEFT))] [(.ref (m0_69_0 p2 s_UP s_LEFT)), (.ref (f1 (p2 &&& (2147483647 : Int32)) s_UP s_LEFT))])) X64 hx rfl rfl rfl (pc0 := 137) (pc' := 144) (same := false) rfl (hb hby at_137) rfl (decide_eq_false fun q => hc72 (Value.ref.inj q)) (by decide) (by decide) ?_
              show Steps p.tables e below (T64.setTop (mkF m 144 #[.val (.int p1), .val (.int p2), .val (.int (p1 &&& (3 : Int32))), .val (.ref s_UP_LEFT), .val (.ref s_UP), .val (.ref s_LEFT), .val (.int (p2 &&& (2147483647 : Int32))), .val (.ref (f1 (p2 &&& (2147483647 : Int32)) s_UP s_LEFT)), .val (.int (m0_11_0 p2)), .val (.ref (m0_69_0 p2 s_UP s_LEFT))] [])) _
              refine XS.iconst X64.here hx rfl (hb hby at_144) ?_
              show Steps p.tables e below (T64.setTop (mkF m 145 #[.val (.int p1), .val (.int p2), .val (.int (p1 &&& (3 : Int32))), .val (.ref s_UP_LEFT), .val (.ref s_UP), .val (.ref s_LEFT), .val (.int (p2 &&& (2147483647 : Int32))), .val (.ref (f1 (p2 &&& (2147483647 : Int32)) s_UP s_LEFT)), .val (.int (m0_11_0 p2)), .val (.ref (m0_69_0 p2 s_UP s_LEFT))] [(.int (0 : Int32))])) _
              exact retN X64 hx (t := .boolean) Bd.returns (by simp) (hb hby at_145) hr
            · show Q0 Z p1 p2 s_UP_RIGHT s_UP s_RIGHT s_DOWN_LEFT s_DOWN s_LEFT s_DOWN_RIGHT s_UP_LEFT h0 n0 _ T64.heap _
              rw [e64]
              exact ⟨by rw [show (f0 p1 p2 s_UP s_RIGHT s_DOWN s_LEFT) = (0 : Int32) from by first | (rw [f0, if_neg hc2, if_neg hc21, if_neg hc40, if_neg hc62, if_neg hc72]; done) | (simp only [f0, if_neg hc2, if_neg hc21, if_neg hc40, if_neg hc62, if_neg hc72]; done) | rfl], N64⟩

theorem own_par (p : Int32) : (p &&& 2147483647) % 2 = 1 ↔ ((p &&& 2147483647) &&& 1) = 1 := by
  have e : (p &&& 2147483647).toInt = p.toInt % 2 ^ 31 := Jvm.Kit.i32_mask p 2147483647 (k := 31) (by decide) (by decide)
  generalize (p &&& 2147483647) = m at *
  rw [← Int32.toInt_inj, ← Int32.toInt_inj, Jvm.Kit.i32_rem_nonneg (by omega), Jvm.Kit.i32_mask m 1 (k := 1) (by decide) (by decide)]
  rw [show (2 : Int32).toInt = 2 from rfl, show (1 : Int32).toInt = 1 from rfl]
  omega
theorem own_way (p : Int32) (u v : Addr) : f1 (p &&& 2147483647) u v = if (if ((p &&& 2147483647) &&& 1) = 1 then (1 : Int32) else 0) = 0 then v else u := by
  simp only [f1, own_par]
  by_cases h : ((p &&& 2147483647) &&& 1) = 1 <;> simp [h]
theorem own_main (p1 : Int32) (p2 : Int32) (s_UP : Addr) (s_RIGHT : Addr) (s_DOWN : Addr) (s_LEFT : Addr) : (f0 p1 p2 s_UP s_RIGHT s_DOWN s_LEFT) = 1 := by
  simp only [f0, own_way, m0_14_0, m0_33_0, m0_52_0, m0_69_0, m0_11_0, if_pos]
  split <;> (try split) <;> (try split) <;> (try split) <;> (first | rfl | simp)

set_option maxRecDepth 65536 in
set_option maxHeartbeats 40000000 in
theorem comes_1 {Post : Tables → Env → Array Value → State → Outcome → State → Prop} (hpost : ∀ tb e args s v u, (limb_1_1.after args s (.returned v) u = true ∧ limb_1_2.after args s (.returned v) u = true ∧ True) → FrameEnd s (.returned v) u (Jvm.fieldLocs frame_1_writes args s ++ Jvm.arrayLocs frame_1_arrays args s ++ Jvm.staticLocs frame_1_statics s) 0 0 → Post tb e args s (.returned v) u) :
    ArmFor flags0 classFile x code maxLocals ret World_1 tables_1 room_1 Calls_1 rest_1 Pre_1 Post := by
  intro l hfl _ _ p e ha hc hk s m args below hf hA hF happ hP
  obtain ⟨hcalls, hrest, hpre⟩ := hP
  obtain ⟨-, -, -, hnamed, -, -, -, hat⟩ := (Spec.applies_iff hf).mp happ
  obtain ⟨hg, hn⟩ := and_e (Cond.before_iff.mp (show (Jvm.Cond.and given_1 narrow_1).before args s = true from hpre))
  obtain ⟨g1, g2⟩ := and_e hg
  obtain ⟨g3, g4⟩ := and_e g2
  obtain ⟨w0, w1, rfl⟩ : ∃ w0 w1 : Value, args = #[w0, w1] := by
    have hs : args.size = 2 := by simpa [Cond.value, given_1] using g1
    obtain ⟨L⟩ := args
    match L, hs with
    | [w0, w1], _ => exact ⟨w0, w1, rfl⟩
  have hw := fun d (hd : d ∈ tables_1) => atoms_spec (ws := Jvm.Cond.code x code maxLocals ret :: tables_1) hat d (List.mem_cons_of_mem _ hd)
  have hfit : Fit s := fun {y c} hc i hi => by
    obtain ⟨ha, rfl⟩ := Array.getElem?_eq_some_iff.mp hc
    have q := List.all_eq_true.mp ((Array.all_eq_true_iff_forall_mem.mp hF) _ (Array.getElem_mem ha)) i (List.mem_range.mpr hi)
    simpa [Array.getElem?_eq_getElem hi] using q
  obtain ⟨i0, ei0⟩ := is_v g3
  obtain rfl : w0 = (.int i0) := Option.some.inj ei0
  obtain ⟨i1, ei1⟩ := is_v g4
  obtain rfl : w1 = (.int i1) := Option.some.inj ei1
  obtain ⟨hn1, hn2⟩ := and_e hn
  obtain ⟨hn3, hn4⟩ := and_e hn2
  obtain ⟨hn5, hn6⟩ := and_e hn4
  obtain ⟨hn7, hn8⟩ := and_e hn6
  obtain ⟨hn9, hn10⟩ := and_e hn8
  obtain ⟨hn11, hn12⟩ := and_e hn10
  obtain ⟨hn13, hn14⟩ := and_e hn12
  obtain ⟨hn15, hn16⟩ := and_e hn14
  obtain ⟨hn17, hn18⟩ := and_e hn16
  obtain ⟨hn19, hn20⟩ := and_e hn18
  obtain ⟨hn21, hn22⟩ := and_e hn20
  obtain ⟨hn23, hn24⟩ := and_e hn22
  obtain ⟨hn25, hn26⟩ := and_e hn24
  obtain ⟨hn27, hn28⟩ := and_e hn26
  obtain ⟨hn29, hn30⟩ := and_e hn28
  obtain ⟨s_UP_RIGHT, ev_s_UP_RIGHT⟩ := exa_v hn1
  have S_s_UP_RIGHT : Sta s s.heap "com/example/parlour/parlour/frenzy/Diagonal" "UP_RIGHT" "Lcom/example/parlour/parlour/frenzy/Diagonal;" (.ref s_UP_RIGHT) := Sta.start ev_s_UP_RIGHT (Or.inr ⟨(hw _ (List.mem_of_getElem? (i := 1) rfl)), (hw _ (List.mem_of_getElem? (i := 2) rfl))⟩)
  have E_s_UP_RIGHT : Exa s s.heap s_UP_RIGHT "com/example/parlour/parlour/frenzy/Diagonal" := Exa.start ev_s_UP_RIGHT hn1
  obtain ⟨s_UP, ev_s_UP⟩ := exa_v hn3
  have S_s_UP : Sta s s.heap "com/example/parlour/parlour/frenzy/Direction" "UP" "Lcom/example/parlour/parlour/frenzy/Direction;" (.ref s_UP) := Sta.start ev_s_UP (Or.inr ⟨(hw _ (List.mem_of_getElem? (i := 4) rfl)), (hw _ (List.mem_of_getElem? (i := 5) rfl))⟩)
  have E_s_UP : Exa s s.heap s_UP "com/example/parlour/parlour/frenzy/Direction" := Exa.start ev_s_UP hn3
  obtain ⟨s_RIGHT, ev_s_RIGHT⟩ := exa_v hn5
  have S_s_RIGHT : Sta s s.heap "com/example/parlour/parlour/frenzy/Direction" "RIGHT" "Lcom/example/parlour/parlour/frenzy/Direction;" (.ref s_RIGHT) := Sta.start ev_s_RIGHT (Or.inr ⟨(hw _ (List.mem_of_getElem? (i := 4) rfl)), (hw _ (List.mem_of_getElem? (i := 7) rfl))⟩)
  have E_s_RIGHT : Exa s s.heap s_RIGHT "com/example/parlour/parlour/frenzy/Direction" := Exa.start ev_s_RIGHT hn5
  obtain ⟨s_DOWN_LEFT, ev_s_DOWN_LEFT⟩ := exa_v hn9
  have S_s_DOWN_LEFT : Sta s s.heap "com/example/parlour/parlour/frenzy/Diagonal" "DOWN_LEFT" "Lcom/example/parlour/parlour/frenzy/Diagonal;" (.ref s_DOWN_LEFT) := Sta.start ev_s_DOWN_LEFT (Or.inr ⟨(hw _ (List.mem_of_getElem? (i := 1) rfl)), (hw _ (List.mem_of_getElem? (i := 17) rfl))⟩)
  have E_s_DOWN_LEFT : Exa s s.heap s_DOWN_LEFT "com/example/parlour/parlour/frenzy/Diagonal" := Exa.start ev_s_DOWN_LEFT hn9
  obtain ⟨s_DOWN, ev_s_DOWN⟩ := exa_v hn11
  have S_s_DOWN : Sta s s.heap "com/example/parlour/parlour/frenzy/Direction" "DOWN" "Lcom/example/parlour/parlour/frenzy/Direction;" (.ref s_DOWN) := Sta.start ev_s_DOWN (Or.inr ⟨(hw _ (List.mem_of_getElem? (i := 4) rfl)), (hw _ (List.mem_of_getElem? (i := 19) rfl))⟩)
  have E_s_DOWN : Exa s s.heap s_DOWN "com/example/parlour/parlour/frenzy/Direction" := Exa.start ev_s_DOWN hn11
  obtain ⟨s_LEFT, ev_s_LEFT⟩ := exa_v hn13
  have S_s_LEFT : Sta s s.heap "com/example/parlour/parlour/frenzy/Direction" "LEFT" "Lcom/example/parlour/parlour/frenzy/Direction;" (.ref s_LEFT) := Sta.start ev_s_LEFT (Or.inr ⟨(hw _ (List.mem_of_getElem? (i := 4) rfl)), (hw _ (List.mem_of_getElem? (i := 21) rfl))⟩)
  have E_s_LEFT : Exa s s.heap s_LEFT "com/example/parlour/parlour/frenzy/Direction" := Exa.start ev_s_LEFT hn13
  obtain ⟨s_DOWN_RIGHT, ev_s_DOWN_RIGHT⟩ := exa_v hn19
  have S_s_DOWN_RIGHT : Sta s s.heap "com/example/parlour/parlour/frenzy/Diagonal" "DOWN_RIGHT" "Lcom/example/parlour/parlour/frenzy/Diagonal;" (.ref s_DOWN_RIGHT) := Sta.start ev_s_DOWN_RIGHT (Or.inr ⟨(hw _ (List.mem_of_getElem? (i := 1) rfl)), (hw _ (List.mem_of_getElem? (i := 25) rfl))⟩)
  have E_s_DOWN_RIGHT : Exa s s.heap s_DOWN_RIGHT "com/example/parlour/parlour/frenzy/Diagonal" := Exa.start ev_s_DOWN_RIGHT hn19
  obtain ⟨s_UP_LEFT, ev_s_UP_LEFT⟩ := exa_v hn25
  have S_s_UP_LEFT : Sta s s.heap "com/example/parlour/parlour/frenzy/Diagonal" "UP_LEFT" "Lcom/example/parlour/parlour/frenzy/Diagonal;" (.ref s_UP_LEFT) := Sta.start ev_s_UP_LEFT (Or.inr ⟨(hw _ (List.mem_of_getElem? (i := 1) rfl)), (hw _ (List.mem_of_getElem? (i := 27) rfl))⟩)
  have E_s_UP_LEFT : Exa s s.heap s_UP_LEFT "com/example/parlour/parlour/frenzy/Diagonal" := Exa.start ev_s_UP_LEFT hn25
  have F_s_UP_RIGHT_vertical : Fld s s.heap s_UP_RIGHT "com/example/parlour/parlour/frenzy/Diagonal" "vertical" "Lcom/example/parlour/parlour/frenzy/Direction;" (.ref s_UP) := own_fr ev_s_UP_RIGHT ev_s_UP hn7
  have F_s_DOWN_LEFT_vertical : Fld s s.heap s_DOWN_LEFT "com/example/parlour/parlour/frenzy/Diagonal" "vertical" "Lcom/example/parlour/parlour/frenzy/Direction;" (.ref s_DOWN) := own_fr ev_s_DOWN_LEFT ev_s_DOWN hn15
  have F_s_UP_RIGHT_horizontal : Fld s s.heap s_UP_RIGHT "com/example/parlour/parlour/frenzy/Diagonal" "horizontal" "Lcom/example/parlour/parlour/frenzy/Direction;" (.ref s_RIGHT) := own_fr ev_s_UP_RIGHT ev_s_RIGHT hn17
  have F_s_DOWN_RIGHT_vertical : Fld s s.heap s_DOWN_RIGHT "com/example/parlour/parlour/frenzy/Diagonal" "vertical" "Lcom/example/parlour/parlour/frenzy/Direction;" (.ref s_DOWN) := own_fr ev_s_DOWN_RIGHT ev_s_DOWN hn21
  have F_s_DOWN_LEFT_horizontal : Fld s s.heap s_DOWN_LEFT "com/example/parlour/parlour/frenzy/Diagonal" "horizontal" "Lcom/example/parlour/parlour/frenzy/Direction;" (.ref s_LEFT) := own_fr ev_s_DOWN_LEFT ev_s_LEFT hn23
  have F_s_UP_LEFT_horizontal : Fld s s.heap s_UP_LEFT "com/example/parlour/parlour/frenzy/Diagonal" "horizontal" "Lcom/example/parlour/parlour/frenzy/Direction;" (.ref s_LEFT) := own_fr ev_s_UP_LEFT ev_s_LEFT hn27
  have F_s_UP_LEFT_vertical : Fld s s.heap s_UP_LEFT "com/example/parlour/parlour/frenzy/Diagonal" "vertical" "Lcom/example/parlour/parlour/frenzy/Direction;" (.ref s_UP) := own_fr ev_s_UP_LEFT ev_s_UP hn29
  have F_s_DOWN_RIGHT_horizontal : Fld s s.heap s_DOWN_RIGHT "com/example/parlour/parlour/frenzy/Diagonal" "horizontal" "Lcom/example/parlour/parlour/frenzy/Direction;" (.ref s_RIGHT) := own_fr ev_s_DOWN_RIGHT ev_s_RIGHT hn30
  obtain ⟨n, o, h1, h2, h3, _, L, rfl, ⟨rfl, N⟩, hq⟩ := rm0 l s _ hw tables_1 i0 i1 s_UP_RIGHT s_UP s_RIGHT s_DOWN_LEFT s_DOWN s_LEFT s_DOWN_RIGHT s_UP_LEFT s.heap s.heap.size (Nat.le_refl _) (Old.start s) S_s_UP_RIGHT E_s_UP_RIGHT S_s_UP E_s_UP S_s_RIGHT E_s_RIGHT S_s_DOWN_LEFT E_s_DOWN_LEFT S_s_DOWN E_s_DOWN S_s_LEFT E_s_LEFT S_s_DOWN_RIGHT E_s_DOWN_RIGHT S_s_UP_LEFT E_s_UP_LEFT F_s_UP_RIGHT_vertical F_s_DOWN_LEFT_vertical F_s_UP_RIGHT_horizontal F_s_DOWN_RIGHT_vertical F_s_DOWN_LEFT_horizontal F_s_UP_LEFT_horizontal F_s_UP_LEFT_vertical F_s_DOWN_RIGHT_horizontal p e ha hc hk s m _ below hf ((Spec.applies_iff_loose hf).mp happ).1 ⟨rfl, State.Warmed39.refl s, rfl⟩ trivial
  refine ⟨n, _, h1, h2, h3, hpost _ _ _ _ _ _ ⟨Cond.after_iff.mpr rfl, Cond.after_iff.mpr (eq_i res_at (Term.int_eval (1)) (congrArg Value.int (own_main i0 i1 s_UP s_RIGHT s_DOWN s_LEFT))), trivial⟩ ⟨hq.1, hq.2.1, (hq.2.2.sift fun y hy => Or.inr (N y hy)).mono (by decide) (by decide)⟩⟩
theorem main_1_1 : Claimed_1_1 := comes_1 fun _ _ _ _ _ _ h hF => ⟨h.1, hF⟩
theorem main_1_2 : Claimed_1_2 := comes_1 fun _ _ _ _ _ _ h hF => ⟨h.2.1, hF⟩
end Jvm.Pilot.@@N@@
namespace Jvm.Pilot.@@N@@
open Jvm Jvm.ClassFile Sem Op Lib Jvm.Free Jvm.Stand Jvm.Pilot.@@N@@.Jvm.D
/-! MADE BY PROGRAM (witnessworld.py) out of the Statement's table words and the real class files: 13 classes; the members and pool entries that the words name. The judged class is class 1, her method 1. -/
namespace start1
open Jvm.ClassFile
def u (s : String) : CpInfo := .utf8 (stringToUtf16 s)
/-- a pool by its gaps: so many unusable entries, then the entry; so many at the end -/
def gap : Nat → List CpInfo → List CpInfo
  | 0, r => r
  | n + 1, r => .unusable :: gap n r
def poolList (es : List (Nat × CpInfo)) (last : Nat) : List CpInfo := es.foldr (fun e r => gap e.1 (e.2 :: r)) (gap last [])
def pool (es : List (Nat × CpInfo)) (last : Nat) : Array CpInfo := ⟨poolList es last⟩
def fileOf (pool : Array CpInfo) (this : Nat) (attrs : Array Attribute := #[]) (ms : Array MethodInfo := #[]) (fl : Nat := 33) (sup : Nat := 0) (ifs : Array Nat := #[]) (fds : Array FieldInfo := #[]) : ClassFile where
  minorVersion := 0
  majorVersion := 65
  constantPool := pool
  accessFlags := fl
  thisClass := this
  superClass := sup
  interfaces := ifs
  fields := fds
  methods := ms
  attributes := attrs
def plain (name : String) (sup : Option ClassId) : Class where
  name := name
  kind := .ordinary
  loader := none
  accessFlags := 33
  super := sup
  interfaces := #[]
  cf := none
  fields := #[]
  methods := #[]
  instanceTypes := #[]
  staticTypes := #[]
  resolved := #[]
  callSites := []
  init := .initialized
  statics := none
  mirror := none

def pool0 : Array CpInfo := pool [(5, u "<init>"), (0, u "()V"), (1, .class_ 10), (1, u "java/lang/Object")] 113

def k0m0 : Method := { name := "<init>", desc := "()V", sig := { parameters := [], returnType := none }, accessFlags := 1, code := none }
/-- java/lang/Object -/
def k0 : Class := { plain "java/lang/Object" none with
  accessFlags := 33
  interfaces := #[]
  cf := some (fileOf pool0 8 #[] #[{ accessFlags := 1, nameIndex := 5, descriptorIndex := 6, attributes := #[] }] 33 0 #[] #[])
  fields := #[]
  methods := #[k0m0]
  instanceTypes := #[]
  staticTypes := #[]
  resolved := Array.replicate 124 none
  statics := none }

def pool1 : Array CpInfo := pool [(2, .class_ 4), (1, u "java/lang/Object"), (0, u "<init>"), (0, u "()V"), (0, .fieldref 8 9), (0, .class_ 10), (0, .nameAndType 11 12), (0, u "com/example/parlour/parlour/frenzy/Diagonal"), (0, u "UP_RIGHT"), (0, u "Lcom/example/parlour/parlour/frenzy/Diagonal;"), (0, .fieldref 14 15), (0, .class_ 16), (0, .nameAndType 17 18), (0, u "com/example/parlour/parlour/frenzy/Direction"), (0, u "UP"), (0, u "Lcom/example/parlour/parlour/frenzy/Direction;"), (0, .fieldref 14 20), (0, .nameAndType 21 18), (0, u "RIGHT"), (0, .fieldref 8 23), (0, .nameAndType 24 12), (0, u "DOWN_RIGHT"), (0, .fieldref 14 26), (0, .nameAndType 27 18), (0, u "DOWN"), (0, .fieldref 8 29), (0, .nameAndType 30 12), (0, u "DOWN_LEFT"), (0, .fieldref 14 32), (0, .nameAndType 33 18), (0, u "LEFT"), (0, .fieldref 8 35), (0, .nameAndType 36 12), (0, u "UP_LEFT"), (0, .integer 2147483647), (0, .methodref 8 39), (0, .nameAndType 40 41), (0, u "way"), (0, u "(I)Lcom/example/parlour/parlour/frenzy/Direction;"), (0, .class_ 43), (0, u "com/example/parlour/parlour/frenzy/DiagonalWayPinLaw"), (2, u "law"), (0, u "(II)Z")] 3

def k1m0 : Method := { name := "<init>", desc := "()V", sig := { parameters := [], returnType := none }, accessFlags := 1, code := none }
def k1c1 : Code := { maxStack := 2, maxLocals := 10, code := code, exceptionTable := #[], attributes := #[] }
def k1m1 : Method := { name := "law", desc := "(II)Z", sig := { parameters := [.int, .int], returnType := some .boolean }, accessFlags := 9, code := some k1c1 }
/-- com/example/parlour/parlour/frenzy/DiagonalWayPinLaw -/
def k1 : Class := { plain "com/example/parlour/parlour/frenzy/DiagonalWayPinLaw" (some 0) with
  accessFlags := 49
  interfaces := #[]
  cf := some (fileOf pool1 42 #[] #[{ accessFlags := 1, nameIndex := 5, descriptorIndex := 6, attributes := #[] }, { accessFlags := 9, nameIndex := 46, descriptorIndex := 47, attributes := #[] }] 49 2 #[] #[])
  fields := #[]
  methods := #[k1m0, k1m1]
  instanceTypes := #[]
  staticTypes := #[]
  resolved := Array.replicate 51 none
  statics := none }

def pool2 : Array CpInfo := pool [(1, .class_ 2), (0, u "java/lang/constant/Constable"), (0, .class_ 4), (0, u "java/lang/Object")] 6

/-- java/lang/constant/Constable -/
def k2 : Class := { plain "java/lang/constant/Constable" (some 0) with
  accessFlags := 1537
  interfaces := #[]
  cf := some (fileOf pool2 1 #[] #[] 1537 3 #[] #[])
  fields := #[]
  methods := #[]
  instanceTypes := #[]
  staticTypes := #[]
  resolved := Array.replicate 11 none
  statics := none }

def pool3 : Array CpInfo := pool [(1, .class_ 2), (0, u "java/lang/Comparable"), (0, .class_ 4), (0, u "java/lang/Object")] 7

/-- java/lang/Comparable -/
def k3 : Class := { plain "java/lang/Comparable" (some 0) with
  accessFlags := 1537
  interfaces := #[]
  cf := some (fileOf pool3 1 #[] #[] 1537 3 #[] #[])
  fields := #[]
  methods := #[]
  instanceTypes := #[]
  staticTypes := #[]
  resolved := Array.replicate 12 none
  statics := none }

def pool4 : Array CpInfo := pool [(1, .class_ 2), (0, u "java/io/Serializable"), (0, .class_ 4), (0, u "java/lang/Object")] 2

/-- java/io/Serializable -/
def k4 : Class := { plain "java/io/Serializable" (some 0) with
  accessFlags := 1537
  interfaces := #[]
  cf := some (fileOf pool4 1 #[] #[] 1537 3 #[] #[])
  fields := #[]
  methods := #[]
  instanceTypes := #[]
  staticTypes := #[]
  resolved := Array.replicate 7 none
  statics := none }

def pool5 : Array CpInfo := pool [(2, .class_ 4), (1, u "java/lang/Enum"), (0, u "name"), (0, u "Ljava/lang/String;"), (2, u "ordinal"), (0, u "I"), (1, .class_ 14), (1, u "java/lang/Object"), (4, u "hash"), (86, .class_ 108), (1, u "java/lang/Enum$EnumDesc"), (2, .class_ 112), (0, u "java/lang/constant/Constable"), (0, .class_ 114), (0, u "java/lang/Comparable"), (0, .class_ 116), (0, u "java/io/Serializable")] 87

/-- java/lang/Enum -/
def k5 : Class := { plain "java/lang/Enum" (some 0) with
  accessFlags := 1057
  interfaces := #[2, 3, 4]
  cf := some (fileOf pool5 2 #[.nestMembers #[106]] #[] 1057 12 #[111, 113, 115] #[{ accessFlags := 18, nameIndex := 5, descriptorIndex := 6, attributes := #[] }, { accessFlags := 18, nameIndex := 9, descriptorIndex := 10, attributes := #[] }, { accessFlags := 2, nameIndex := 19, descriptorIndex := 10, attributes := #[] }])
  fields := #[{ name := "name", type := (.object "java/lang/String"), accessFlags := 18, slot := 0, constantValue := 0 }, { name := "ordinal", type := .int, accessFlags := 18, slot := 1, constantValue := 0 }, { name := "hash", type := .int, accessFlags := 2, slot := 2, constantValue := 0 }]
  methods := #[]
  instanceTypes := #[(.object "java/lang/String"), .int, .int]
  staticTypes := #[]
  resolved := Array.replicate 204 none
  statics := none }

def pool6 : Array CpInfo := pool [(1, .class_ 2), (0, u "com/example/parlour/parlour/frenzy/Diagonal"), (2, u "UP_RIGHT"), (0, u "Lcom/example/parlour/parlour/frenzy/Diagonal;"), (2, u "DOWN_RIGHT"), (2, u "DOWN_LEFT"), (2, u "UP_LEFT"), (2, u "$VALUES"), (0, u "[Lcom/example/parlour/parlour/frenzy/Diagonal;"), (6, .class_ 28), (1, u "java/lang/Enum"), (6, .fieldref 1 36), (0, .nameAndType 37 38), (0, u "vertical"), (0, u "Lcom/example/parlour/parlour/frenzy/Direction;"), (0, .fieldref 1 40), (0, .nameAndType 41 38), (0, u "horizontal"), (32, u "way"), (0, u "(I)Lcom/example/parlour/parlour/frenzy/Direction;")] 6

def k6c0 : Code := { maxStack := 2, maxLocals := 2, code := prog_5_method_4_code, exceptionTable := #[], attributes := #[] }
def k6m0 : Method := { name := "way", desc := "(I)Lcom/example/parlour/parlour/frenzy/Direction;", sig := { parameters := [.int], returnType := some (.object "com/example/parlour/parlour/frenzy/Direction") }, accessFlags := 0, code := some k6c0 }
/-- com/example/parlour/parlour/frenzy/Diagonal -/
def k6 : Class := { plain "com/example/parlour/parlour/frenzy/Diagonal" (some 5) with
  accessFlags := 16432
  interfaces := #[]
  cf := some (fileOf pool6 1 #[] #[{ accessFlags := 0, nameIndex := 74, descriptorIndex := 75, attributes := #[] }] 16432 26 #[] #[{ accessFlags := 16409, nameIndex := 5, descriptorIndex := 6, attributes := #[] }, { accessFlags := 16409, nameIndex := 9, descriptorIndex := 6, attributes := #[] }, { accessFlags := 16409, nameIndex := 12, descriptorIndex := 6, attributes := #[] }, { accessFlags := 16409, nameIndex := 15, descriptorIndex := 6, attributes := #[] }, { accessFlags := 18, nameIndex := 37, descriptorIndex := 38, attributes := #[] }, { accessFlags := 18, nameIndex := 41, descriptorIndex := 38, attributes := #[] }, { accessFlags := 4122, nameIndex := 18, descriptorIndex := 19, attributes := #[] }])
  fields := #[{ name := "UP_RIGHT", type := (.object "com/example/parlour/parlour/frenzy/Diagonal"), accessFlags := 16409, slot := 0, constantValue := 0 }, { name := "DOWN_RIGHT", type := (.object "com/example/parlour/parlour/frenzy/Diagonal"), accessFlags := 16409, slot := 1, constantValue := 0 }, { name := "DOWN_LEFT", type := (.object "com/example/parlour/parlour/frenzy/Diagonal"), accessFlags := 16409, slot := 2, constantValue := 0 }, { name := "UP_LEFT", type := (.object "com/example/parlour/parlour/frenzy/Diagonal"), accessFlags := 16409, slot := 3, constantValue := 0 }, { name := "vertical", type := (.object "com/example/parlour/parlour/frenzy/Direction"), accessFlags := 18, slot := 3, constantValue := 0 }, { name := "horizontal", type := (.object "com/example/parlour/parlour/frenzy/Direction"), accessFlags := 18, slot := 4, constantValue := 0 }, { name := "$VALUES", type := (.array (.object "com/example/parlour/parlour/frenzy/Diagonal")), accessFlags := 4122, slot := 4, constantValue := 0 }]
  methods := #[k6m0]
  instanceTypes := #[(.object "java/lang/String"), .int, .int, (.object "com/example/parlour/parlour/frenzy/Direction"), (.object "com/example/parlour/parlour/frenzy/Direction")]
  staticTypes := #[(.object "com/example/parlour/parlour/frenzy/Diagonal"), (.object "com/example/parlour/parlour/frenzy/Diagonal"), (.object "com/example/parlour/parlour/frenzy/Diagonal"), (.object "com/example/parlour/parlour/frenzy/Diagonal"), (.array (.object "com/example/parlour/parlour/frenzy/Diagonal"))]
  resolved := Array.replicate 82 none
  statics := some 0 }

def pool7 : Array CpInfo := pool [(1, .class_ 2), (0, u "com/example/parlour/parlour/frenzy/Direction"), (2, u "UP"), (0, u "Lcom/example/parlour/parlour/frenzy/Direction;"), (2, u "DOWN"), (2, u "LEFT"), (2, u "RIGHT"), (2, u "$VALUES"), (0, u "[Lcom/example/parlour/parlour/frenzy/Direction;"), (6, .class_ 28), (1, u "java/lang/Enum"), (8, u "rows"), (0, u "I"), (2, u "columns")] 24

/-- com/example/parlour/parlour/frenzy/Direction -/
def k7 : Class := { plain "com/example/parlour/parlour/frenzy/Direction" (some 5) with
  accessFlags := 16432
  interfaces := #[]
  cf := some (fileOf pool7 1 #[] #[] 16432 26 #[] #[{ accessFlags := 16409, nameIndex := 5, descriptorIndex := 6, attributes := #[] }, { accessFlags := 16409, nameIndex := 9, descriptorIndex := 6, attributes := #[] }, { accessFlags := 16409, nameIndex := 12, descriptorIndex := 6, attributes := #[] }, { accessFlags := 16409, nameIndex := 15, descriptorIndex := 6, attributes := #[] }, { accessFlags := 18, nameIndex := 37, descriptorIndex := 38, attributes := #[] }, { accessFlags := 18, nameIndex := 41, descriptorIndex := 38, attributes := #[] }, { accessFlags := 4122, nameIndex := 18, descriptorIndex := 19, attributes := #[] }])
  fields := #[{ name := "UP", type := (.object "com/example/parlour/parlour/frenzy/Direction"), accessFlags := 16409, slot := 0, constantValue := 0 }, { name := "DOWN", type := (.object "com/example/parlour/parlour/frenzy/Direction"), accessFlags := 16409, slot := 1, constantValue := 0 }, { name := "LEFT", type := (.object "com/example/parlour/parlour/frenzy/Direction"), accessFlags := 16409, slot := 2, constantValue := 0 }, { name := "RIGHT", type := (.object "com/example/parlour/parlour/frenzy/Direction"), accessFlags := 16409, slot := 3, constantValue := 0 }, { name := "rows", type := .int, accessFlags := 18, slot := 3, constantValue := 0 }, { name := "columns", type := .int, accessFlags := 18, slot := 4, constantValue := 0 }, { name := "$VALUES", type := (.array (.object "com/example/parlour/parlour/frenzy/Direction")), accessFlags := 4122, slot := 4, constantValue := 0 }]
  methods := #[]
  instanceTypes := #[(.object "java/lang/String"), .int, .int, .int, .int]
  staticTypes := #[(.object "com/example/parlour/parlour/frenzy/Direction"), (.object "com/example/parlour/parlour/frenzy/Direction"), (.object "com/example/parlour/parlour/frenzy/Direction"), (.object "com/example/parlour/parlour/frenzy/Direction"), (.array (.object "com/example/parlour/parlour/frenzy/Direction"))]
  resolved := Array.replicate 66 none
  statics := some 1 }

def pool8 : Array CpInfo := pool [(1, u "java/lang/Cloneable"), (0, .class_ 1), (0, u "java/lang/Object"), (0, .class_ 3)] 3

/-- java/lang/Cloneable -/
def k8 : Class := { plain "java/lang/Cloneable" (some 0) with
  accessFlags := 1537
  interfaces := #[]
  cf := some (fileOf pool8 2 #[] #[] 1537 4 #[] #[])
  fields := #[]
  methods := #[]
  instanceTypes := #[]
  staticTypes := #[]
  resolved := Array.replicate 8 none
  statics := none }

/-- the primitive byte -/
def k9 : Class := { plain "byte" none with kind := .primitive 'B', accessFlags := 0x411 }
/-- [B -/
def k10 : Class := { plain "[B" (some 0) with kind := .array 9 .byte, interfaces := #[8, 4], accessFlags := 1041 }

/-- the primitive int -/
def k11 : Class := { plain "int" none with kind := .primitive 'I', accessFlags := 0x411 }
/-- [I -/
def k12 : Class := { plain "[I" (some 0) with kind := .array 11 .int, interfaces := #[8, 4], accessFlags := 1041 }

def heap : Heap := #[{ cls := 6, slots := #[.ref 6, .ref 7, .ref 8, .ref 9, .null], vm := .statics 6 },
  { cls := 7, slots := #[.ref 2, .ref 3, .ref 4, .ref 5, .null], vm := .statics 7 },
  { cls := 7, slots := #[.null, .int 0, .int 0, .int 0, .int 0], vm := .none },
  { cls := 7, slots := #[.null, .int 0, .int 0, .int 0, .int 0], vm := .none },
  { cls := 7, slots := #[.null, .int 0, .int 0, .int 0, .int 0], vm := .none },
  { cls := 7, slots := #[.null, .int 0, .int 0, .int 0, .int 0], vm := .none },
  { cls := 6, slots := #[.null, .int 0, .int 0, .ref 2, .ref 5], vm := .none },
  { cls := 6, slots := #[.null, .int 0, .int 0, .ref 3, .ref 5], vm := .none },
  { cls := 6, slots := #[.null, .int 0, .int 0, .ref 3, .ref 4], vm := .none },
  { cls := 6, slots := #[.null, .int 0, .int 0, .ref 2, .ref 4], vm := .none }]
def classes : Array Class := #[k0, k1, k2, k3, k4, k5, k6, k7, k8, k9, k10, k11, k12]
def interned : List (Array UInt16 × Addr) := []
def slotsUsed : Nat := 50
def theMethod : MethodId := ⟨1, 1⟩
def args0 : Array Value := #[.int 5, .int 6]
def aboutOver (below : List Frame) : State where
  vm := { classes := classes, interned := interned.toArray }
  heap := heap
  slotsUsed := slotsUsed
  threads := #[{ frames := .invoking theMethod args0 :: below }]
def below0 : List Frame := [.native { method := ⟨0, 0⟩, args := #[] }]
def about1 : State := aboutOver below0
def p0 : Program := .bare "" "" ""
def e0 : Env := launch0.env 0 0 0
theorem w_frames : about1.frames = Frame.invoking theMethod args0 :: below0 := rfl
set_option maxRecDepth 65536 in
theorem w_args : argsFit about1.vm theMethod args0 = true := by decide +kernel
set_option maxRecDepth 65536 in
theorem w_heap : heapFits about1 = true := by decide +kernel
set_option maxRecDepth 65536 in
theorem w_runnable : about1.curStatus? = some .runnable := by decide +kernel
set_option maxRecDepth 65536 in
theorem w_alone : about1.alone = true := by decide +kernel
set_option maxRecDepth 65536 in
theorem w_named : about1.methodNamed? x = some theMethod := by decide +kernel
set_option maxRecDepth 65536 in
theorem w_hears : about1.hears theMethod below0 = true := by decide +kernel
set_option maxRecDepth 65536 in
theorem w_ripe : about1.ripe theMethod args0 below0 = true := by decide +kernel
theorem w_running : about1.status = .running := rfl
set_option maxRecDepth 65536 in
theorem w_room : about1.hasRoom e0.platform room_1 = true :=
  launch0.hasRoom_least _ room_1 (by decide +kernel) (by decide +kernel) (by decide +kernel) (by decide +kernel) (by decide +kernel) (by decide +kernel)
theorem allAtoms_all (ts : List Jvm.Cond) (a : Array Jvm.Value) (st : Jvm.State) : (allAtoms ts).before a st = ts.all (fun c => c.before a st) := by
  induction ts with
  | nil => rfl
  | cons c t ih =>
    show (Jvm.Cond.and c (allAtoms t)).before a st = _
    rw [Jvm.Cond.before_and, ih, List.all_cons]
def words1 : List Jvm.Cond := Jvm.Cond.code x code maxLocals ret :: tables_1
/-- a 'code' word, met by the world's own term for the bytes: nothing is compared byte by byte -/
theorem code_word {y : MethodName} {bytes : ByteArray} {mx : Nat} {rt : Option FieldType} {a : Array Value} {s : State} {m : MethodId} {meth : Method} {c : Code} (h1 : s.methodNamed? y = some m) (h2 : s.vm.method? m = some meth) (h3 : meth.code = some c) (h4 : c.code = bytes)
    (h5 : (c.maxLocals == mx && c.exceptionTable.isEmpty && decide (c.maxStack ≤ mostOperands) && decide (meth.sig.returnType = rt) && !meth.locks && decide (parseMethodDescriptor y.desc = some meth.sig)) = true) : (Jvm.Cond.code y bytes mx rt).before a s = true := by
  simp only [Bool.and_eq_true, beq_iff_eq, Bool.not_eq_true', decide_eq_true_eq] at h5
  obtain ⟨⟨⟨⟨⟨g1, g2⟩, g3⟩, g4⟩, g5⟩, g6⟩ := h5
  simp [Cond.before, Cond.holds, Cond.value, h1, h2, h3, h4, g1, g2, g3, g4, g5, g6]
def isCode : Jvm.Cond → Bool
  | .code _ _ _ _ => true
  | _ => false
theorem all_split {L : List Jvm.Cond} {P : Jvm.Cond → Bool} (h1 : L.all (fun c => isCode c || P c) = true) (h2 : ∀ c ∈ L.filter isCode, P c = true) : L.all P = true := by
  refine List.all_eq_true.mpr fun c hc => ?_
  have h := List.all_eq_true.mp h1 c hc
  rcases Bool.eq_false_or_eq_true (isCode c) with hi | hi
  · exact h2 c (List.mem_filter.mpr ⟨hc, hi⟩)
  · simpa [hi] using h
set_option maxRecDepth 65536 in
theorem w_c0 : (Jvm.Cond.code x code maxLocals ret).before args0 about1 = true := code_word (m := ⟨1, 1⟩) (meth := k1m1) (c := k1c1) (by decide +kernel) rfl rfl rfl (by decide +kernel)
set_option maxRecDepth 65536 in
theorem w_c1 : (Jvm.Cond.code ({ cls := "com/example/parlour/parlour/frenzy/Diagonal", name := "way", desc := "(I)Lcom/example/parlour/parlour/frenzy/Direction;" } : Jvm.MethodName) prog_5_method_4_code (2 : Nat) (Option.some (Jvm.ClassFile.FieldType.object "com/example/parlour/parlour/frenzy/Direction"))).before args0 about1 = true := code_word (m := ⟨6, 0⟩) (meth := k6m0) (c := k6c0) (by decide +kernel) rfl rfl rfl (by decide +kernel)
def codes1 : List Jvm.Cond := [Jvm.Cond.code x code maxLocals ret, Jvm.Cond.code ({ cls := "com/example/parlour/parlour/frenzy/Diagonal", name := "way", desc := "(I)Lcom/example/parlour/parlour/frenzy/Direction;" } : Jvm.MethodName) prog_5_method_4_code (2 : Nat) (Option.some (Jvm.ClassFile.FieldType.object "com/example/parlour/parlour/frenzy/Direction"))]
set_option maxRecDepth 65536 in
theorem codes_eq : words1.filter isCode = codes1 := rfl
theorem w_codes : ∀ c ∈ words1.filter isCode, c.before args0 about1 = true := by
  rw [codes_eq]
  intro c hc
  simp only [codes1, List.mem_cons, List.not_mem_nil, or_false] at hc
  rcases hc with rfl | rfl
  · exact w_c0
  · exact w_c1
set_option maxRecDepth 65536 in
theorem w_t1 : (words1.take 24).all (fun c => isCode c || c.before args0 about1) = true := by decide +kernel
set_option maxRecDepth 65536 in
theorem w_t2 : (words1.drop 24).all (fun c => isCode c || c.before args0 about1) = true := by decide +kernel
theorem w_tables : (allAtoms (Jvm.Cond.code x code maxLocals ret :: tables_1)).before args0 about1 = true := by
  rw [allAtoms_all]
  show words1.all (fun c => c.before args0 about1) = true
  refine all_split ?_ w_codes
  rw [← List.take_append_drop 24 words1, List.all_append, w_t1, w_t2]
  rfl
set_option maxRecDepth 65536 in
theorem w_case : (Jvm.Cond.and given_1 narrow_1).before args0 about1 = true := by decide +kernel
theorem w_applies : (headSpec (Jvm.Cond.code x code maxLocals ret :: tables_1) room_1).applies x e0.platform about1 = true :=
  (Spec.applies_iff w_frames).mpr ⟨w_running, w_runnable, w_alone, w_named, w_hears, w_ripe, w_room, w_tables⟩
theorem atStart : AtStart classFile x code maxLocals ret World_1 tables_1 room_1 Calls_1 rest_1 Pre_1 launch0 p0 e0 about1 theMethod args0 below0 :=
  ⟨lists_1, trivial, launch0.admits_env _ _ _, launch0.least_env, fairChoices_fair.cas, fairChoices_fair.clock, w_frames, w_args, w_heap, w_applies, trivial, trivial, w_case⟩
end start1
theorem witness_1 : WitnessClaimed_1 := ⟨start1.p0, start1.e0, start1.about1, start1.theMethod, start1.args0, start1.below0, start1.atStart⟩
end Jvm.Pilot.@@N@@

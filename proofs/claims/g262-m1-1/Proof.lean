import JvmDerived
import JvmDerived.Pilot.@@N@@Statement
import JvmDerived.Pilot.@@N@@Code
set_option linter.unusedVariables false
set_option linter.unusedSimpArgs false
@@BLOCK:NumsL.lean.txt@@
namespace Jvm.RoadKit
open Sem ClassFile Op Lib Jvm.Stand Jvm.Free Jvm.LawKit
section New
variable {p : Program} {l : Launch} {e : Env} {R : Room} {s : State} {m : MethodId} {args : Array Value} {below : List Frame} {meth : Method} {c : Code} {T : State} {locs : List Loc} {cells slots : Nat}
theorem retI (X : Stand p l e R s m args below meth c T locs cells slots) (hx : p.tables.exec = Jvm.exec) {pc : Nat} {Ls : Array Slot} {z : Int32} {rest : List Value} (hret : meth.sig.returnType = some .int) (hd : decode c.code pc = .ok (.ireturn, 1)) {fs : List Frame}
    (hl : ∀ (f : JFrame) (acts : List Action), f.method = m → f.locked = none → f.entered = [] → (doReturn e (T.setTop f) acts (some (.int z))).1 = T.setFrames fs) : Steps p.tables e below (T.setTop (mkF m pc Ls (.int z :: rest))) (T.setFrames fs) := by
  have hm' : T.vm.method? m = some meth := X.method'
  have hn : narrow .int (.int z) = .int z := rfl
  show Steps p.tables e below (T.setTop { method := m, pc := pc, locals := Ls, stack := _ :: rest, locked := none }) _
  jvm_step X.here [X.here.top, hx, hd, hm', hret, hn]
  first | (intro acts; rw [hl _ acts rfl rfl rfl]) | rw [hl _ _ rfl rfl rfl]
  exact Steps.refl _
end New
end Jvm.RoadKit
namespace Jvm.Pilot.@@N@@
open Jvm Jvm.ClassFile Sem Op Lib Jvm.Free Jvm.Stand Jvm.LawKit Jvm.RoadKit Bundle Jvm.Pilot.@@N@@.Jvm.D


/-! arrays: what an array holds, as a list of values (AV) or as a function of the place (AI) -/
def AV (Z : State) (h : Heap) (a : Addr) (ty : FieldType) (z : Int32) (vs : List Value) : Prop := ∃ c : Cell, Arr Z h a c ty ∧ c.slots = vs.toArray ∧ vs.length = z.toNatClampNeg ∧ ¬ z < 0
def AI (Z : State) (h : Heap) (a : Addr) (ty : FieldType) (z : Int32) (f : Nat → Int32) : Prop := ∃ c : Cell, Arr Z h a c ty ∧ c.slots.size = z.toNatClampNeg ∧ ¬ z < 0 ∧ ∀ i, i < z.toNatClampNeg → c.slots[i]? = some (.int (f i))
section Arrays
variable {Z : State} {h h' : Heap} {a b : Addr} {ty : FieldType} {z j : Int32} {vs : List Value} {f : Nat → Int32} {sl : Nat} {v : Value} {ws : List Addr} {k : ClassId}
theorem AV.lt (F : AV Z h a ty z vs) : a < h.size := by obtain ⟨c, A, -⟩ := F; exact A.lt
theorem AI.lt (F : AI Z h a ty z f) : a < h.size := by obtain ⟨c, A, -⟩ := F; exact A.lt
theorem AV.ext (F : AV Z h a ty z vs) (E : Ext h h') : AV Z h' a ty z vs := by obtain ⟨c, A, r⟩ := F; exact ⟨c, Arr.ext E A, r⟩
theorem AI.ext (F : AI Z h a ty z f) (E : Ext h h') : AI Z h' a ty z f := by obtain ⟨c, A, r⟩ := F; exact ⟨c, Arr.ext E A, r⟩
theorem AV.other (F : AV Z h b ty z vs) (W : Wr h h' a sl v) (q : b ≠ a) : AV Z h' b ty z vs := by obtain ⟨c, A, r⟩ := F; exact ⟨c, Arr.other W A q, r⟩
theorem AI.other (F : AI Z h b ty z f) (W : Wr h h' a sl v) (q : b ≠ a) : AI Z h' b ty z f := by obtain ⟨c, A, r⟩ := F; exact ⟨c, Arr.other W A q, r⟩
theorem AV.keep (F : AV Z h a ty z vs) (K : Keep h h' ws) (q : a ∉ ws) : AV Z h' a ty z vs := by obtain ⟨c, A, r⟩ := F; exact ⟨c, ⟨K.2.1 _ _ A.1 q, A.2⟩, r⟩
theorem AI.keep (F : AI Z h a ty z f) (K : Keep h h' ws) (q : a ∉ ws) : AI Z h' a ty z f := by obtain ⟨c, A, r⟩ := F; exact ⟨c, ⟨K.2.1 _ _ A.1 q, A.2⟩, r⟩
theorem AV.new (A : Arr Z h a (newA k ty z) ty) (q : ¬ z < 0) : AV Z h a ty z (List.replicate z.toNatClampNeg (defaultValue ty)) := ⟨_, A, by simp [newA], by simp, q⟩
theorem AI.new {d : Int32} (A : Arr Z h a (newA k ty z) ty) (q : ¬ z < 0) (hd : defaultValue ty = .int d) : AI Z h a ty z (fun _ => d) := ⟨_, A, sz_new k ty z, q, fun i hi => by simp [newA, hi, hd]⟩
theorem AV.set {c : Cell} (A : Arr Z h a c ty) (S : c.slots = vs.toArray) (N : vs.length = z.toNatClampNeg) (q : ¬ z < 0) (W : Wr h h' a sl v) : AV Z h' a ty z (vs.set sl v) := by
  refine ⟨_, Arr.same W A, ?_, by simpa using N, q⟩
  simp [Cell.setSlot, S]
theorem AI.set {c : Cell} {x : Int32} (A : Arr Z h a c ty) (S : c.slots.size = z.toNatClampNeg) (q : ¬ z < 0) (G : ∀ i, i < z.toNatClampNeg → c.slots[i]? = some (.int (f i))) (W : Wr h h' a sl (.int x)) : AI Z h' a ty z (fun i => if i = sl then x else f i) := by
  obtain ⟨c', e1, -, -, e4, -, e6, e7⟩ := wr_at W A.1
  have A' := Arr.same W A
  obtain rfl : c' = c.setSlot sl (.int x) := (e7 rfl).1
  refine ⟨_, A', by rw [e4]; exact S, q, fun i hi => ?_⟩
  by_cases hc : i = sl
  · subst hc; simp only [if_pos]; exact (e7 rfl).2.1
  · simp only [if_neg hc]; rw [e6 i hc]; exact G i hi
theorem AI.congr {g : Nat → Int32} (F : AI Z h a ty z f) (q : ∀ i, i < z.toNatClampNeg → f i = g i) : AI Z h a ty z g := by
  obtain ⟨c, A, S, N, G⟩ := F
  exact ⟨c, A, S, N, fun i hi => by rw [← q i hi]; exact G i hi⟩
theorem AV.inb {c : Cell} (S : c.slots = vs.toArray) (N : vs.length = z.toNatClampNeg) (q : ¬ j < 0 ∧ j < z) : ¬ (j < 0 ∨ c.slots.size ≤ j.toNatClampNeg) := inb_of (by rw [S]; simpa using N) q
theorem AV.len {c : Cell} (S : c.slots = vs.toArray) (N : vs.length = z.toNatClampNeg) (q : ¬ z < 0) : c.slots.size.toInt32 = z := len_of (by rw [S]; simpa using N) q
theorem AV.at {c : Cell} (S : c.slots = vs.toArray) (hj : vs[j.toNatClampNeg]? = some v) : c.slots[j.toNatClampNeg]? = some v := by rw [S]; simpa using hj
theorem AI.at {c : Cell} (S : c.slots.size = z.toNatClampNeg) (G : ∀ i, i < z.toNatClampNeg → c.slots[i]? = some (.int (f i))) (q : ¬ (j < 0 ∨ c.slots.size ≤ j.toNatClampNeg)) : c.slots[j.toNatClampNeg]? = some (.int (f j.toNatClampNeg)) := G _ (by rw [← S]; exact Nat.lt_of_not_le fun x => q (Or.inr x))
theorem own_loop {G : Prop} {α : Type} (P : α → Prop) (m : α → Nat) (hs : ∀ a, P a → (∀ b, P b → m b < m a → G) → G) (a : α) (ha : P a) : G := by
  suffices h : ∀ n a, m a = n → P a → G from h _ a rfl ha
  intro n
  induction n using Nat.strongRecOn with
  | ind n ih => intro a hn hp; exact hs a hp fun b hb hlt => ih (m b) (by rw [← hn]; exact hlt) b rfl hb
def AK (h : Heap) (a : Addr) (k : ClassId) : Prop := ∃ c : Cell, h[a]? = some c ∧ c.cls = k
theorem AK.ext (F : AK h a k) (E : Ext h h') : AK h' a k := by obtain ⟨c, h1, h2⟩ := F; exact ⟨c, E.2 _ _ h1, h2⟩
theorem AK.wr (F : AK h b k) (W : Wr h h' a sl v) : AK h' b k := by obtain ⟨c, h1, h2⟩ := F; obtain ⟨c', e1, e2, -⟩ := wr_at W h1; exact ⟨c', e1, e2.trans h2⟩
theorem AK.keep (F : AK h a k) (K : Keep h h' ws) : AK h' a k := by obtain ⟨c, h1, h2⟩ := F; obtain ⟨c', e1, e2, -⟩ := K.2.2 _ _ h1; exact ⟨c', e1, e2.trans h2⟩
theorem AK.cls {c : Cell} (F : AK h a k) (A : Arr Z h a c ty) : c.cls = k := by obtain ⟨c', h1, h2⟩ := F; cases h1.symm.trans A.1; exact h2
theorem AV.arv (F : AV Z h a ty z vs) (d : Value) (hf : ∀ v ∈ vs, fits ty v = true) : ∃ k, Arv Z h a k ty z vs d := by
  obtain ⟨c, A, S, N, q⟩ := F
  refine ⟨_, c, A, rfl, by rw [S]; simpa using N, q, fun i hi => ?_, fun i hi => ?_⟩
  · rw [S] at hi ⊢
    have hi' : i < vs.length := by simpa using hi
    simp [hi']
  · rw [S] at hi
    have hi' : i < vs.length := by simpa using hi
    have e : vs.getD i d = vs[i] := by simp [hi']
    rw [e]; exact hf _ (List.getElem_mem hi')
theorem AV.of_arv {d : Value} (F : Arv Z h a k ty z vs d) (N : vs.length = z.toNatClampNeg) : AV Z h a ty z vs := by
  obtain ⟨c, A, -, S, q, H, -⟩ := F
  refine ⟨c, A, ?_, N, q⟩
  apply Array.ext_getElem?
  intro i
  by_cases hi : i < c.slots.size
  · have hi' : i < vs.length := by rw [N, ← S]; exact hi
    rw [H i hi]; simp [hi']
  · have hi' : ¬ i < vs.length := by rw [N, ← S]; exact hi
    simp [Array.getElem?_eq_none (Nat.le_of_not_lt hi), List.getElem?_eq_none (Nat.le_of_not_lt hi')]
end Arrays


theorem own_and3 (x : Int32) : (x &&& 3) = 0 ∨ (x &&& 3) = 1 ∨ (x &&& 3) = 2 ∨ (x &&& 3) = 3 := by
  have e : (x &&& 3).toInt = x.toInt % 2 ^ 2 := Jvm.Kit.i32_mask x 3 (k := 2) (by decide) (by decide)
  have h : x.toInt % 2 ^ 2 = 0 ∨ x.toInt % 2 ^ 2 = 1 ∨ x.toInt % 2 ^ 2 = 2 ∨ x.toInt % 2 ^ 2 = 3 := by omega
  rcases h with h | h | h | h
  · exact Or.inl (Int32.toInt_inj.mp (e.trans h))
  · exact Or.inr (Or.inl (Int32.toInt_inj.mp (e.trans h)))
  · exact Or.inr (Or.inr (Or.inl (Int32.toInt_inj.mp (e.trans h))))
  · exact Or.inr (Or.inr (Or.inr (Int32.toInt_inj.mp (e.trans h))))


open Jvm.FP Jvm.Free.Fl
theorem own_d0 : FP.dconst0 = FP.l2d 0 := by rw [l2d_zero]; rfl
def Bd (k : Int) (a : Int64) : Prop := -k ≤ a.toInt ∧ a.toInt ≤ k
theorem own_b0 : Bd 0 0 := by unfold Bd; decide
theorem own_b31 (p : Int32) : Bd 2147483648 p.toInt64 := by
  have a := p.toInt_lt; have b := p.le_toInt
  unfold Bd; rw [Jvm.Kit.i64_of_i32]; omega
theorem own_53 {k : Int} {a : Int64} (h : Bd k a) (hk : k < 9007199254740992) : B53 a := by unfold Bd at h; unfold B53; omega
theorem own_badd {k : Int} {a b : Int64} (ha : Bd k a) (hb : Bd 2147483648 b) (hk : k < 9007199254740992) : Bd (k + 2147483648) (a + b) := by
  have e := Jvm.RoadKit.add64 (own_53 ha hk) (own_53 hb (by decide))
  unfold Bd at *; rw [e]; omega
theorem own_nn {x y : Int64} (hy : y ≠ 0) : NoNaN64 (FP.ddiv (FP.l2d x) (FP.l2d y)) := by
  have h := ddiv_mag (l2d_mag x) (l2d_big hy) (by decide) (by decide)
  exact Fin64.noNaN ((fin64_iff _).mpr (Nat.lt_of_lt_of_le h (by decide)))

theorem d1_0 : decode prog_64_method_4_code 0 = .ok (.dconst 0, 1) := by decide +kernel
theorem d1_1 : decode prog_64_method_4_code 1 = .ok (.dstore_n 1, 1) := by decide +kernel
theorem d1_2 : decode prog_64_method_4_code 2 = .ok (.aload_n 0, 1) := by decide +kernel
theorem d1_3 : decode prog_64_method_4_code 3 = .ok (.astore_n 3, 1) := by decide +kernel
theorem d1_4 : decode prog_64_method_4_code 4 = .ok (.aload_n 3, 1) := by decide +kernel
theorem d1_5 : decode prog_64_method_4_code 5 = .ok (.arraylength, 1) := by decide +kernel
theorem d1_6 : decode prog_64_method_4_code 6 = .ok (.istore 4, 2) := by decide +kernel
theorem d1_8 : decode prog_64_method_4_code 8 = .ok (.iconst 0, 1) := by decide +kernel
theorem d1_9 : decode prog_64_method_4_code 9 = .ok (.istore 5, 2) := by decide +kernel
theorem d1_11 : decode prog_64_method_4_code 11 = .ok (.iload 5, 2) := by decide +kernel
theorem d1_13 : decode prog_64_method_4_code 13 = .ok (.iload 4, 2) := by decide +kernel
theorem d1_15 : decode prog_64_method_4_code 15 = .ok (.if_icmp .ge 20, 3) := by decide +kernel
theorem d1_18 : decode prog_64_method_4_code 18 = .ok (.aload_n 3, 1) := by decide +kernel
theorem d1_19 : decode prog_64_method_4_code 19 = .ok (.iload 5, 2) := by decide +kernel
theorem d1_21 : decode prog_64_method_4_code 21 = .ok (.daload, 1) := by decide +kernel
theorem d1_22 : decode prog_64_method_4_code 22 = .ok (.dstore 6, 2) := by decide +kernel
theorem d1_24 : decode prog_64_method_4_code 24 = .ok (.dload_n 1, 1) := by decide +kernel
theorem d1_25 : decode prog_64_method_4_code 25 = .ok (.dload 6, 2) := by decide +kernel
theorem d1_27 : decode prog_64_method_4_code 27 = .ok (.dadd, 1) := by decide +kernel
theorem d1_28 : decode prog_64_method_4_code 28 = .ok (.dstore_n 1, 1) := by decide +kernel
theorem d1_29 : decode prog_64_method_4_code 29 = .ok (.iinc 5 1, 3) := by decide +kernel
theorem d1_32 : decode prog_64_method_4_code 32 = .ok (.goto (-21), 3) := by decide +kernel
theorem d1_35 : decode prog_64_method_4_code 35 = .ok (.dload_n 1, 1) := by decide +kernel
theorem d1_36 : decode prog_64_method_4_code 36 = .ok (.aload_n 0, 1) := by decide +kernel
theorem d1_37 : decode prog_64_method_4_code 37 = .ok (.arraylength, 1) := by decide +kernel
theorem d1_38 : decode prog_64_method_4_code 38 = .ok (.i2d, 1) := by decide +kernel
theorem d1_39 : decode prog_64_method_4_code 39 = .ok (.ddiv, 1) := by decide +kernel
theorem d1_40 : decode prog_64_method_4_code 40 = .ok (.dreturn, 1) := by decide +kernel
theorem pn_0 : plainName "com/example/byeonhwa/byeonhwa/WelchTest" = true := by first | (simp [plainName, overriddenIn]; done) | decide +kernel
theorem ef_1n1 (m : MethodId) (x0 : Addr) : entryFrame m #[(.ref x0)] 8 = mkF m 0 #[.val (.ref x0), .unset, .unset, .unset, .unset, .unset, .unset, .unset] [] := by first | (simp [entryFrame, mkF, argsToLocals, Value.category]; done) | rfl
def Q1n1 (Z : State) (a1 : Addr) (x0 : Int64) (h0 : Heap) (n0 : Nat) (v : Option Value) (h : Heap) (L : List Loc) : Prop := v = some (.double (FP.ddiv (FP.l2d ((0 : Int64) + x0)) (FP.l2d (1 : Int64)))) ∧ Fr n0 L ∧ h = h0
set_option maxRecDepth 65536 in
set_option maxHeartbeats 40000000 in
theorem rm1n1 (l : Launch) (Z : State) (a0 : Array Value) (hw : ∀ d ∈ tables_1, d.before a0 Z = true) (ws : List Jvm.Cond) (a1 : Addr) (x0 : Int64) (h0 : Heap) (n0 : Nat) (Z0 : n0 ≤ h0.size) (V_a1 : AV Z h0 a1 .double (1 : Int32) [(.double (FP.l2d x0))]) (hx0 : Bd 2147483648 x0) :
    MetFree l (⟨"com/example/byeonhwa/byeonhwa/WelchTest", "mean", "([D)D"⟩ : MethodName) (head1 (Jvm.Cond.code (⟨"com/example/byeonhwa/byeonhwa/WelchTest", "mean", "([D)D"⟩ : MethodName) prog_64_method_4_code 8 (some .double) :: ws) ({ frames := 0, cells := 0, slots := 0, locals := 0 } : Room)) (fun a U => a = #[(.ref a1)] ∧ Z.Warmed39 U.vm ∧ U.heap = h0) (fun _ _ _ _ _ => True) (fun _ U o U' => ∃ v L, o = .returned v ∧ Q1n1 Z a1 x0 h0 n0 v U'.heap L ∧ FrameEnd U o U' L ({ frames := 0, cells := 0, slots := 0, locals := 0 } : Room).cells ({ frames := 0, cells := 0, slots := 0, locals := 0 } : Room).slots) := by
  refine MetFree.of_bodySF (plainFor_of_name pn_0) hisR ?_
  intro p e s m args below meth c s₁ Bd hml0 hP hK
  obtain ⟨rfl, hZ, hh⟩ := hP
  have hx := Bd.exec
  have hby := Bd.bytes
  have hml : c.maxLocals = 8 := hml0
  have hown : s.vm.findClass "com/example/byeonhwa/byeonhwa/WelchTest" = some m.cls := findClass_of_methodNamed Bd.named
  have hnm := (name_of_methodNamed Bd.named Bd.method).1
  have X0 : Stand p l e ({ frames := 0, cells := 0, slots := 0, locals := 0 } : Room) s m #[(.ref a1)] below meth c s₁ [] 0 0 := Stand.of_body Bd
  have e0 : s₁.heap = h0 := by rw [← hh, Bd.state]; rfl
  have N0 := Fr.nil n0
  have pre0 : ∀ t, Steps p.tables e below (s₁.setTop (mkF m 0 #[.val (.ref a1), .unset, .unset, .unset, .unset, .unset, .unset, .unset] [])) t → Steps p.tables e below (s₁.setTop (entryFrame m #[(.ref a1)] 8)) t := fun t k => castTop (ef_1n1 m a1) k
  obtain ⟨cl1, A1, S1, Nl1, M1⟩ := id V_a1
  obtain ⟨cl2, A2, S2, Nl2, M2⟩ := id V_a1
  have hin2 : ¬ ((0 : Int32) < 0 ∨ cl2.slots.size ≤ ((0 : Int32)).toNatClampNeg) := AV.inb S2 Nl2 ⟨by decide, by decide⟩
  have hat2 : cl2.slots[((0 : Int32)).toNatClampNeg]? = some (.double (FP.l2d x0)) := AV.at S2 rfl
  have ea3 := dadd_w (own_53 own_b0 (by decide)) (own_53 hx0 (by decide))
  have bd4 := own_badd own_b0 hx0 (by decide)
  obtain ⟨cl5, A5, S5, Nl5, M5⟩ := id V_a1
  obtain ⟨fs, hr, hrun, hended, hW, hsame⟩ := X0.leave (v := some (.double (FP.ddiv (FP.l2d ((0 : Int64) + x0)) (FP.l2d (1 : Int64))))) (fun h => by rw [Bd.returns] at h; cases h)
  refine ⟨_, _, pre0 _ ?_, hrun, hended, _, _, rfl, ?_, ⟨_, rfl⟩, hW, hsame.mono (by decide) (by decide)⟩
  · show Steps p.tables e below (s₁.setTop (mkF m 0 #[.val (.ref a1), .unset, .unset, .unset, .unset, .unset, .unset, .unset] [])) _
    refine XS.dconst0 X0.here hx rfl (v := (FP.l2d (0 : Int64))) (hb hby d1_0) own_d0 ?_
    show Steps p.tables e below (s₁.setTop (mkF m 1 #[.val (.ref a1), .unset, .unset, .unset, .unset, .unset, .unset, .unset] [(.double (FP.l2d (0 : Int64)))])) _
    refine XS.dstoreN X0.here hx rfl (hb hby d1_1) rfl (l' := #[.val (.ref a1), .val (.double (FP.l2d (0 : Int64))), .second, .unset, .unset, .unset, .unset, .unset]) rfl ?_
    show Steps p.tables e below (s₁.setTop (mkF m 2 #[.val (.ref a1), .val (.double (FP.l2d (0 : Int64))), .second, .unset, .unset, .unset, .unset, .unset] [])) _
    refine XS.aloadN X0.here hx rfl (hb hby d1_2) rfl rfl ?_
    show Steps p.tables e below (s₁.setTop (mkF m 3 #[.val (.ref a1), .val (.double (FP.l2d (0 : Int64))), .second, .unset, .unset, .unset, .unset, .unset] [(.ref a1)])) _
    refine XS.astoreN X0.here hx rfl (hb hby d1_3) rfl rfl (l' := #[.val (.ref a1), .val (.double (FP.l2d (0 : Int64))), .second, .val (.ref a1), .unset, .unset, .unset, .unset]) rfl ?_
    show Steps p.tables e below (s₁.setTop (mkF m 4 #[.val (.ref a1), .val (.double (FP.l2d (0 : Int64))), .second, .val (.ref a1), .unset, .unset, .unset, .unset] [])) _
    refine XS.aloadN X0.here hx rfl (hb hby d1_4) rfl rfl ?_
    show Steps p.tables e below (s₁.setTop (mkF m 5 #[.val (.ref a1), .val (.double (FP.l2d (0 : Int64))), .second, .val (.ref a1), .unset, .unset, .unset, .unset] [(.ref a1)])) _
    refine X0.arraylength hx (by rw [e0]; exact A1.1) (State.isArrayOf_alike hZ.alike A1.2.1) (g := (mkF m 5 #[.val (.ref a1), .val (.double (FP.l2d (0 : Int64))), .second, .val (.ref a1), .unset, .unset, .unset, .unset] [(.ref a1)])) rfl rfl (hb hby d1_5) _ ?_
    rw [AV.len S1 Nl1 M1]
    show Steps p.tables e below (s₁.setTop (mkF m 6 #[.val (.ref a1), .val (.double (FP.l2d (0 : Int64))), .second, .val (.ref a1), .unset, .unset, .unset, .unset] [(.int (1 : Int32))])) _
    refine XS.istore X0.here hx rfl (hb hby d1_6) rfl (l' := #[.val (.ref a1), .val (.double (FP.l2d (0 : Int64))), .second, .val (.ref a1), .val (.int (1 : Int32)), .unset, .unset, .unset]) rfl ?_
    show Steps p.tables e below (s₁.setTop (mkF m 8 #[.val (.ref a1), .val (.double (FP.l2d (0 : Int64))), .second, .val (.ref a1), .val (.int (1 : Int32)), .unset, .unset, .unset] [])) _
    refine XS.iconst X0.here hx rfl (hb hby d1_8) ?_
    show Steps p.tables e below (s₁.setTop (mkF m 9 #[.val (.ref a1), .val (.double (FP.l2d (0 : Int64))), .second, .val (.ref a1), .val (.int (1 : Int32)), .unset, .unset, .unset] [(.int (0 : Int32))])) _
    refine XS.istore X0.here hx rfl (hb hby d1_9) rfl (l' := #[.val (.ref a1), .val (.double (FP.l2d (0 : Int64))), .second, .val (.ref a1), .val (.int (1 : Int32)), .val (.int (0 : Int32)), .unset, .unset]) rfl ?_
    show Steps p.tables e below (s₁.setTop (mkF m 11 #[.val (.ref a1), .val (.double (FP.l2d (0 : Int64))), .second, .val (.ref a1), .val (.int (1 : Int32)), .val (.int (0 : Int32)), .unset, .unset] [])) _
    refine XS.iload X0.here hx rfl (hb hby d1_11) rfl ?_
    show Steps p.tables e below (s₁.setTop (mkF m 13 #[.val (.ref a1), .val (.double (FP.l2d (0 : Int64))), .second, .val (.ref a1), .val (.int (1 : Int32)), .val (.int (0 : Int32)), .unset, .unset] [(.int (0 : Int32))])) _
    refine XS.iload X0.here hx rfl (hb hby d1_13) rfl ?_
    show Steps p.tables e below (s₁.setTop (mkF m 15 #[.val (.ref a1), .val (.double (FP.l2d (0 : Int64))), .second, .val (.ref a1), .val (.int (1 : Int32)), .val (.int (0 : Int32)), .unset, .unset] [(.int (1 : Int32)), (.int (0 : Int32))])) _
    refine XS.icmpNo X0.here hx rfl (hb hby d1_15) rfl (tlt (by decide : (0 : Int32) < (1 : Int32))).2.1 ?_
    show Steps p.tables e below (s₁.setTop (mkF m 18 #[.val (.ref a1), .val (.double (FP.l2d (0 : Int64))), .second, .val (.ref a1), .val (.int (1 : Int32)), .val (.int (0 : Int32)), .unset, .unset] [])) _
    refine XS.aloadN X0.here hx rfl (hb hby d1_18) rfl rfl ?_
    show Steps p.tables e below (s₁.setTop (mkF m 19 #[.val (.ref a1), .val (.double (FP.l2d (0 : Int64))), .second, .val (.ref a1), .val (.int (1 : Int32)), .val (.int (0 : Int32)), .unset, .unset] [(.ref a1)])) _
    refine XS.iload X0.here hx rfl (hb hby d1_19) rfl ?_
    show Steps p.tables e below (s₁.setTop (mkF m 21 #[.val (.ref a1), .val (.double (FP.l2d (0 : Int64))), .second, .val (.ref a1), .val (.int (1 : Int32)), .val (.int (0 : Int32)), .unset, .unset] [(.int (0 : Int32)), (.ref a1)])) _
    refine X0.daload hx (j := (0 : Int32)) (v := (.double (FP.l2d x0))) (by rw [e0]; exact A2.1) (State.isArrayOf_alike hZ.alike A2.2.1) A2.2.2 hin2 hat2 (g := (mkF m 21 #[.val (.ref a1), .val (.double (FP.l2d (0 : Int64))), .second, .val (.ref a1), .val (.int (1 : Int32)), .val (.int (0 : Int32)), .unset, .unset] [(.int (0 : Int32)), (.ref a1)])) rfl rfl (hb hby d1_21) _ ?_
    show Steps p.tables e below (s₁.setTop (mkF m 22 #[.val (.ref a1), .val (.double (FP.l2d (0 : Int64))), .second, .val (.ref a1), .val (.int (1 : Int32)), .val (.int (0 : Int32)), .unset, .unset] [(.double (FP.l2d x0))])) _
    refine XS.dstore X0.here hx rfl (hb hby d1_22) rfl (l' := #[.val (.ref a1), .val (.double (FP.l2d (0 : Int64))), .second, .val (.ref a1), .val (.int (1 : Int32)), .val (.int (0 : Int32)), .val (.double (FP.l2d x0)), .second]) rfl ?_
    show Steps p.tables e below (s₁.setTop (mkF m 24 #[.val (.ref a1), .val (.double (FP.l2d (0 : Int64))), .second, .val (.ref a1), .val (.int (1 : Int32)), .val (.int (0 : Int32)), .val (.double (FP.l2d x0)), .second] [])) _
    refine XS.dloadN X0.here hx rfl (hb hby d1_24) rfl ?_
    show Steps p.tables e below (s₁.setTop (mkF m 25 #[.val (.ref a1), .val (.double (FP.l2d (0 : Int64))), .second, .val (.ref a1), .val (.int (1 : Int32)), .val (.int (0 : Int32)), .val (.double (FP.l2d x0)), .second] [(.double (FP.l2d (0 : Int64)))])) _
    refine XS.dload X0.here hx rfl (hb hby d1_25) rfl ?_
    show Steps p.tables e below (s₁.setTop (mkF m 27 #[.val (.ref a1), .val (.double (FP.l2d (0 : Int64))), .second, .val (.ref a1), .val (.int (1 : Int32)), .val (.int (0 : Int32)), .val (.double (FP.l2d x0)), .second] [(.double (FP.l2d x0)), (.double (FP.l2d (0 : Int64)))])) _
    refine XS.daddS X0.here hx rfl (v := (FP.l2d ((0 : Int64) + x0))) (hb hby d1_27) rfl (nn_w ea3) ea3 ?_
    show Steps p.tables e below (s₁.setTop (mkF m 28 #[.val (.ref a1), .val (.double (FP.l2d (0 : Int64))), .second, .val (.ref a1), .val (.int (1 : Int32)), .val (.int (0 : Int32)), .val (.double (FP.l2d x0)), .second] [(.double (FP.l2d ((0 : Int64) + x0)))])) _
    refine XS.dstoreN X0.here hx rfl (hb hby d1_28) rfl (l' := #[.val (.ref a1), .val (.double (FP.l2d ((0 : Int64) + x0))), .second, .val (.ref a1), .val (.int (1 : Int32)), .val (.int (0 : Int32)), .val (.double (FP.l2d x0)), .second]) rfl ?_
    show Steps p.tables e below (s₁.setTop (mkF m 29 #[.val (.ref a1), .val (.double (FP.l2d ((0 : Int64) + x0))), .second, .val (.ref a1), .val (.int (1 : Int32)), .val (.int (0 : Int32)), .val (.double (FP.l2d x0)), .second] [])) _
    refine XS.iinc X0.here hx rfl (hb hby d1_29) rfl (l' := #[.val (.ref a1), .val (.double (FP.l2d ((0 : Int64) + x0))), .second, .val (.ref a1), .val (.int (1 : Int32)), .val (.int (1 : Int32)), .val (.double (FP.l2d x0)), .second]) rfl ?_
    show Steps p.tables e below (s₁.setTop (mkF m 32 #[.val (.ref a1), .val (.double (FP.l2d ((0 : Int64) + x0))), .second, .val (.ref a1), .val (.int (1 : Int32)), .val (.int (1 : Int32)), .val (.double (FP.l2d x0)), .second] [])) _
    refine XS.goto X0.here hx rfl (pc0 := 32) (pc' := 11) rfl (hb hby d1_32) (by decide) (by decide) ?_
    show Steps p.tables e below (s₁.setTop (mkF m 11 #[.val (.ref a1), .val (.double (FP.l2d ((0 : Int64) + x0))), .second, .val (.ref a1), .val (.int (1 : Int32)), .val (.int (1 : Int32)), .val (.double (FP.l2d x0)), .second] [])) _
    refine XS.iload X0.here hx rfl (hb hby d1_11) rfl ?_
    show Steps p.tables e below (s₁.setTop (mkF m 13 #[.val (.ref a1), .val (.double (FP.l2d ((0 : Int64) + x0))), .second, .val (.ref a1), .val (.int (1 : Int32)), .val (.int (1 : Int32)), .val (.double (FP.l2d x0)), .second] [(.int (1 : Int32))])) _
    refine XS.iload X0.here hx rfl (hb hby d1_13) rfl ?_
    show Steps p.tables e below (s₁.setTop (mkF m 15 #[.val (.ref a1), .val (.double (FP.l2d ((0 : Int64) + x0))), .second, .val (.ref a1), .val (.int (1 : Int32)), .val (.int (1 : Int32)), .val (.double (FP.l2d x0)), .second] [(.int (1 : Int32)), (.int (1 : Int32))])) _
    refine XS.icmpYes X0.here hx rfl (pc0 := 15) (pc' := 35) rfl (hb hby d1_15) rfl (flt (by decide : ¬ ((1 : Int32) < (1 : Int32)))).2.1 (by decide) (by decide) ?_
    show Steps p.tables e below (s₁.setTop (mkF m 35 #[.val (.ref a1), .val (.double (FP.l2d ((0 : Int64) + x0))), .second, .val (.ref a1), .val (.int (1 : Int32)), .val (.int (1 : Int32)), .val (.double (FP.l2d x0)), .second] [])) _
    refine XS.dloadN X0.here hx rfl (hb hby d1_35) rfl ?_
    show Steps p.tables e below (s₁.setTop (mkF m 36 #[.val (.ref a1), .val (.double (FP.l2d ((0 : Int64) + x0))), .second, .val (.ref a1), .val (.int (1 : Int32)), .val (.int (1 : Int32)), .val (.double (FP.l2d x0)), .second] [(.double (FP.l2d ((0 : Int64) + x0)))])) _
    refine XS.aloadN X0.here hx rfl (hb hby d1_36) rfl rfl ?_
    show Steps p.tables e below (s₁.setTop (mkF m 37 #[.val (.ref a1), .val (.double (FP.l2d ((0 : Int64) + x0))), .second, .val (.ref a1), .val (.int (1 : Int32)), .val (.int (1 : Int32)), .val (.double (FP.l2d x0)), .second] [(.ref a1), (.double (FP.l2d ((0 : Int64) + x0)))])) _
    refine X0.arraylength hx (by rw [e0]; exact A5.1) (State.isArrayOf_alike hZ.alike A5.2.1) (g := (mkF m 37 #[.val (.ref a1), .val (.double (FP.l2d ((0 : Int64) + x0))), .second, .val (.ref a1), .val (.int (1 : Int32)), .val (.int (1 : Int32)), .val (.double (FP.l2d x0)), .second] [(.ref a1), (.double (FP.l2d ((0 : Int64) + x0)))])) rfl rfl (hb hby d1_37) _ ?_
    rw [AV.len S5 Nl5 M5]
    show Steps p.tables e below (s₁.setTop (mkF m 38 #[.val (.ref a1), .val (.double (FP.l2d ((0 : Int64) + x0))), .second, .val (.ref a1), .val (.int (1 : Int32)), .val (.int (1 : Int32)), .val (.double (FP.l2d x0)), .second] [(.int (1 : Int32)), (.double (FP.l2d ((0 : Int64) + x0)))])) _
    refine XS.i2dS X0.here hx rfl (v := (FP.l2d (1 : Int64))) (hb hby d1_38) rfl (i2d_w _) ?_
    show Steps p.tables e below (s₁.setTop (mkF m 39 #[.val (.ref a1), .val (.double (FP.l2d ((0 : Int64) + x0))), .second, .val (.ref a1), .val (.int (1 : Int32)), .val (.int (1 : Int32)), .val (.double (FP.l2d x0)), .second] [(.double (FP.l2d (1 : Int64))), (.double (FP.l2d ((0 : Int64) + x0)))])) _
    refine XS.ddivS X0.here hx rfl (v := (FP.ddiv (FP.l2d ((0 : Int64) + x0)) (FP.l2d (1 : Int64)))) (hb hby d1_39) rfl (own_nn (by decide)) rfl ?_
    show Steps p.tables e below (s₁.setTop (mkF m 40 #[.val (.ref a1), .val (.double (FP.l2d ((0 : Int64) + x0))), .second, .val (.ref a1), .val (.int (1 : Int32)), .val (.int (1 : Int32)), .val (.double (FP.l2d x0)), .second] [(.double (FP.ddiv (FP.l2d ((0 : Int64) + x0)) (FP.l2d (1 : Int64))))])) _
    exact retOut X0 hx Bd.returns rfl (Or.inr (Or.inr (Or.inl ⟨rfl, rfl, _, rfl⟩))) (hb hby d1_40) hr
  · show Q1n1 Z a1 x0 h0 n0 _ s₁.heap _
    rw [e0]
    exact ⟨rfl, N0, rfl⟩
theorem ef_1n2 (m : MethodId) (x0 : Addr) : entryFrame m #[(.ref x0)] 8 = mkF m 0 #[.val (.ref x0), .unset, .unset, .unset, .unset, .unset, .unset, .unset] [] := by first | (simp [entryFrame, mkF, argsToLocals, Value.category]; done) | rfl
def Q1n2 (Z : State) (a1 : Addr) (x0 : Int64) (x1 : Int64) (h0 : Heap) (n0 : Nat) (v : Option Value) (h : Heap) (L : List Loc) : Prop := v = some (.double (FP.ddiv (FP.l2d (((0 : Int64) + x0) + x1)) (FP.l2d (2 : Int64)))) ∧ Fr n0 L ∧ h = h0
set_option maxRecDepth 65536 in
set_option maxHeartbeats 40000000 in
theorem rm1n2 (l : Launch) (Z : State) (a0 : Array Value) (hw : ∀ d ∈ tables_1, d.before a0 Z = true) (ws : List Jvm.Cond) (a1 : Addr) (x0 : Int64) (x1 : Int64) (h0 : Heap) (n0 : Nat) (Z0 : n0 ≤ h0.size) (V_a1 : AV Z h0 a1 .double (2 : Int32) [(.double (FP.l2d x0)), (.double (FP.l2d x1))]) (hx0 : Bd 2147483648 x0) (hx1 : Bd 2147483648 x1) :
    MetFree l (⟨"com/example/byeonhwa/byeonhwa/WelchTest", "mean", "([D)D"⟩ : MethodName) (head1 (Jvm.Cond.code (⟨"com/example/byeonhwa/byeonhwa/WelchTest", "mean", "([D)D"⟩ : MethodName) prog_64_method_4_code 8 (some .double) :: ws) ({ frames := 0, cells := 0, slots := 0, locals := 0 } : Room)) (fun a U => a = #[(.ref a1)] ∧ Z.Warmed39 U.vm ∧ U.heap = h0) (fun _ _ _ _ _ => True) (fun _ U o U' => ∃ v L, o = .returned v ∧ Q1n2 Z a1 x0 x1 h0 n0 v U'.heap L ∧ FrameEnd U o U' L ({ frames := 0, cells := 0, slots := 0, locals := 0 } : Room).cells ({ frames := 0, cells := 0, slots := 0, locals := 0 } : Room).slots) := by
  refine MetFree.of_bodySF (plainFor_of_name pn_0) hisR ?_
  intro p e s m args below meth c s₁ Bd hml0 hP hK
  obtain ⟨rfl, hZ, hh⟩ := hP
  have hx := Bd.exec
  have hby := Bd.bytes
  have hml : c.maxLocals = 8 := hml0
  have hown : s.vm.findClass "com/example/byeonhwa/byeonhwa/WelchTest" = some m.cls := findClass_of_methodNamed Bd.named
  have hnm := (name_of_methodNamed Bd.named Bd.method).1
  have X0 : Stand p l e ({ frames := 0, cells := 0, slots := 0, locals := 0 } : Room) s m #[(.ref a1)] below meth c s₁ [] 0 0 := Stand.of_body Bd
  have e0 : s₁.heap = h0 := by rw [← hh, Bd.state]; rfl
  have N0 := Fr.nil n0
  have pre0 : ∀ t, Steps p.tables e below (s₁.setTop (mkF m 0 #[.val (.ref a1), .unset, .unset, .unset, .unset, .unset, .unset, .unset] [])) t → Steps p.tables e below (s₁.setTop (entryFrame m #[(.ref a1)] 8)) t := fun t k => castTop (ef_1n2 m a1) k
  obtain ⟨cl1, A1, S1, Nl1, M1⟩ := id V_a1
  obtain ⟨cl2, A2, S2, Nl2, M2⟩ := id V_a1
  have hin2 : ¬ ((0 : Int32) < 0 ∨ cl2.slots.size ≤ ((0 : Int32)).toNatClampNeg) := AV.inb S2 Nl2 ⟨by decide, by decide⟩
  have hat2 : cl2.slots[((0 : Int32)).toNatClampNeg]? = some (.double (FP.l2d x0)) := AV.at S2 rfl
  have ea3 := dadd_w (own_53 own_b0 (by decide)) (own_53 hx0 (by decide))
  have bd4 := own_badd own_b0 hx0 (by decide)
  obtain ⟨cl5, A5, S5, Nl5, M5⟩ := id V_a1
  have hin5 : ¬ ((1 : Int32) < 0 ∨ cl5.slots.size ≤ ((1 : Int32)).toNatClampNeg) := AV.inb S5 Nl5 ⟨by decide, by decide⟩
  have hat5 : cl5.slots[((1 : Int32)).toNatClampNeg]? = some (.double (FP.l2d x1)) := AV.at S5 rfl
  have ea6 := dadd_w (own_53 bd4 (by decide)) (own_53 hx1 (by decide))
  have bd7 := own_badd bd4 hx1 (by decide)
  obtain ⟨cl8, A8, S8, Nl8, M8⟩ := id V_a1
  obtain ⟨fs, hr, hrun, hended, hW, hsame⟩ := X0.leave (v := some (.double (FP.ddiv (FP.l2d (((0 : Int64) + x0) + x1)) (FP.l2d (2 : Int64))))) (fun h => by rw [Bd.returns] at h; cases h)
  refine ⟨_, _, pre0 _ ?_, hrun, hended, _, _, rfl, ?_, ⟨_, rfl⟩, hW, hsame.mono (by decide) (by decide)⟩
  · show Steps p.tables e below (s₁.setTop (mkF m 0 #[.val (.ref a1), .unset, .unset, .unset, .unset, .unset, .unset, .unset] [])) _
    refine XS.dconst0 X0.here hx rfl (v := (FP.l2d (0 : Int64))) (hb hby d1_0) own_d0 ?_
    show Steps p.tables e below (s₁.setTop (mkF m 1 #[.val (.ref a1), .unset, .unset, .unset, .unset, .unset, .unset, .unset] [(.double (FP.l2d (0 : Int64)))])) _
    refine XS.dstoreN X0.here hx rfl (hb hby d1_1) rfl (l' := #[.val (.ref a1), .val (.double (FP.l2d (0 : Int64))), .second, .unset, .unset, .unset, .unset, .unset]) rfl ?_
    show Steps p.tables e below (s₁.setTop (mkF m 2 #[.val (.ref a1), .val (.double (FP.l2d (0 : Int64))), .second, .unset, .unset, .unset, .unset, .unset] [])) _
    refine XS.aloadN X0.here hx rfl (hb hby d1_2) rfl rfl ?_
    show Steps p.tables e below (s₁.setTop (mkF m 3 #[.val (.ref a1), .val (.double (FP.l2d (0 : Int64))), .second, .unset, .unset, .unset, .unset, .unset] [(.ref a1)])) _
    refine XS.astoreN X0.here hx rfl (hb hby d1_3) rfl rfl (l' := #[.val (.ref a1), .val (.double (FP.l2d (0 : Int64))), .second, .val (.ref a1), .unset, .unset, .unset, .unset]) rfl ?_
    show Steps p.tables e below (s₁.setTop (mkF m 4 #[.val (.ref a1), .val (.double (FP.l2d (0 : Int64))), .second, .val (.ref a1), .unset, .unset, .unset, .unset] [])) _
    refine XS.aloadN X0.here hx rfl (hb hby d1_4) rfl rfl ?_
    show Steps p.tables e below (s₁.setTop (mkF m 5 #[.val (.ref a1), .val (.double (FP.l2d (0 : Int64))), .second, .val (.ref a1), .unset, .unset, .unset, .unset] [(.ref a1)])) _
    refine X0.arraylength hx (by rw [e0]; exact A1.1) (State.isArrayOf_alike hZ.alike A1.2.1) (g := (mkF m 5 #[.val (.ref a1), .val (.double (FP.l2d (0 : Int64))), .second, .val (.ref a1), .unset, .unset, .unset, .unset] [(.ref a1)])) rfl rfl (hb hby d1_5) _ ?_
    rw [AV.len S1 Nl1 M1]
    show Steps p.tables e below (s₁.setTop (mkF m 6 #[.val (.ref a1), .val (.double (FP.l2d (0 : Int64))), .second, .val (.ref a1), .unset, .unset, .unset, .unset] [(.int (2 : Int32))])) _
    refine XS.istore X0.here hx rfl (hb hby d1_6) rfl (l' := #[.val (.ref a1), .val (.double (FP.l2d (0 : Int64))), .second, .val (.ref a1), .val (.int (2 : Int32)), .unset, .unset, .unset]) rfl ?_
    show Steps p.tables e below (s₁.setTop (mkF m 8 #[.val (.ref a1), .val (.double (FP.l2d (0 : Int64))), .second, .val (.ref a1), .val (.int (2 : Int32)), .unset, .unset, .unset] [])) _
    refine XS.iconst X0.here hx rfl (hb hby d1_8) ?_
    show Steps p.tables e below (s₁.setTop (mkF m 9 #[.val (.ref a1), .val (.double (FP.l2d (0 : Int64))), .second, .val (.ref a1), .val (.int (2 : Int32)), .unset, .unset, .unset] [(.int (0 : Int32))])) _
    refine XS.istore X0.here hx rfl (hb hby d1_9) rfl (l' := #[.val (.ref a1), .val (.double (FP.l2d (0 : Int64))), .second, .val (.ref a1), .val (.int (2 : Int32)), .val (.int (0 : Int32)), .unset, .unset]) rfl ?_
    show Steps p.tables e below (s₁.setTop (mkF m 11 #[.val (.ref a1), .val (.double (FP.l2d (0 : Int64))), .second, .val (.ref a1), .val (.int (2 : Int32)), .val (.int (0 : Int32)), .unset, .unset] [])) _
    refine XS.iload X0.here hx rfl (hb hby d1_11) rfl ?_
    show Steps p.tables e below (s₁.setTop (mkF m 13 #[.val (.ref a1), .val (.double (FP.l2d (0 : Int64))), .second, .val (.ref a1), .val (.int (2 : Int32)), .val (.int (0 : Int32)), .unset, .unset] [(.int (0 : Int32))])) _
    refine XS.iload X0.here hx rfl (hb hby d1_13) rfl ?_
    show Steps p.tables e below (s₁.setTop (mkF m 15 #[.val (.ref a1), .val (.double (FP.l2d (0 : Int64))), .second, .val (.ref a1), .val (.int (2 : Int32)), .val (.int (0 : Int32)), .unset, .unset] [(.int (2 : Int32)), (.int (0 : Int32))])) _
    refine XS.icmpNo X0.here hx rfl (hb hby d1_15) rfl (tlt (by decide : (0 : Int32) < (2 : Int32))).2.1 ?_
    show Steps p.tables e below (s₁.setTop (mkF m 18 #[.val (.ref a1), .val (.double (FP.l2d (0 : Int64))), .second, .val (.ref a1), .val (.int (2 : Int32)), .val (.int (0 : Int32)), .unset, .unset] [])) _
    refine XS.aloadN X0.here hx rfl (hb hby d1_18) rfl rfl ?_
    show Steps p.tables e below (s₁.setTop (mkF m 19 #[.val (.ref a1), .val (.double (FP.l2d (0 : Int64))), .second, .val (.ref a1), .val (.int (2 : Int32)), .val (.int (0 : Int32)), .unset, .unset] [(.ref a1)])) _
    refine XS.iload X0.here hx rfl (hb hby d1_19) rfl ?_
    show Steps p.tables e below (s₁.setTop (mkF m 21 #[.val (.ref a1), .val (.double (FP.l2d (0 : Int64))), .second, .val (.ref a1), .val (.int (2 : Int32)), .val (.int (0 : Int32)), .unset, .unset] [(.int (0 : Int32)), (.ref a1)])) _
    refine X0.daload hx (j := (0 : Int32)) (v := (.double (FP.l2d x0))) (by rw [e0]; exact A2.1) (State.isArrayOf_alike hZ.alike A2.2.1) A2.2.2 hin2 hat2 (g := (mkF m 21 #[.val (.ref a1), .val (.double (FP.l2d (0 : Int64))), .second, .val (.ref a1), .val (.int (2 : Int32)), .val (.int (0 : Int32)), .unset, .unset] [(.int (0 : Int32)), (.ref a1)])) rfl rfl (hb hby d1_21) _ ?_
    show Steps p.tables e below (s₁.setTop (mkF m 22 #[.val (.ref a1), .val (.double (FP.l2d (0 : Int64))), .second, .val (.ref a1), .val (.int (2 : Int32)), .val (.int (0 : Int32)), .unset, .unset] [(.double (FP.l2d x0))])) _
    refine XS.dstore X0.here hx rfl (hb hby d1_22) rfl (l' := #[.val (.ref a1), .val (.double (FP.l2d (0 : Int64))), .second, .val (.ref a1), .val (.int (2 : Int32)), .val (.int (0 : Int32)), .val (.double (FP.l2d x0)), .second]) rfl ?_
    show Steps p.tables e below (s₁.setTop (mkF m 24 #[.val (.ref a1), .val (.double (FP.l2d (0 : Int64))), .second, .val (.ref a1), .val (.int (2 : Int32)), .val (.int (0 : Int32)), .val (.double (FP.l2d x0)), .second] [])) _
    refine XS.dloadN X0.here hx rfl (hb hby d1_24) rfl ?_
    show Steps p.tables e below (s₁.setTop (mkF m 25 #[.val (.ref a1), .val (.double (FP.l2d (0 : Int64))), .second, .val (.ref a1), .val (.int (2 : Int32)), .val (.int (0 : Int32)), .val (.double (FP.l2d x0)), .second] [(.double (FP.l2d (0 : Int64)))])) _
    refine XS.dload X0.here hx rfl (hb hby d1_25) rfl ?_
    show Steps p.tables e below (s₁.setTop (mkF m 27 #[.val (.ref a1), .val (.double (FP.l2d (0 : Int64))), .second, .val (.ref a1), .val (.int (2 : Int32)), .val (.int (0 : Int32)), .val (.double (FP.l2d x0)), .second] [(.double (FP.l2d x0)), (.double (FP.l2d (0 : Int64)))])) _
    refine XS.daddS X0.here hx rfl (v := (FP.l2d ((0 : Int64) + x0))) (hb hby d1_27) rfl (nn_w ea3) ea3 ?_
    show Steps p.tables e below (s₁.setTop (mkF m 28 #[.val (.ref a1), .val (.double (FP.l2d (0 : Int64))), .second, .val (.ref a1), .val (.int (2 : Int32)), .val (.int (0 : Int32)), .val (.double (FP.l2d x0)), .second] [(.double (FP.l2d ((0 : Int64) + x0)))])) _
    refine XS.dstoreN X0.here hx rfl (hb hby d1_28) rfl (l' := #[.val (.ref a1), .val (.double (FP.l2d ((0 : Int64) + x0))), .second, .val (.ref a1), .val (.int (2 : Int32)), .val (.int (0 : Int32)), .val (.double (FP.l2d x0)), .second]) rfl ?_
    show Steps p.tables e below (s₁.setTop (mkF m 29 #[.val (.ref a1), .val (.double (FP.l2d ((0 : Int64) + x0))), .second, .val (.ref a1), .val (.int (2 : Int32)), .val (.int (0 : Int32)), .val (.double (FP.l2d x0)), .second] [])) _
    refine XS.iinc X0.here hx rfl (hb hby d1_29) rfl (l' := #[.val (.ref a1), .val (.double (FP.l2d ((0 : Int64) + x0))), .second, .val (.ref a1), .val (.int (2 : Int32)), .val (.int (1 : Int32)), .val (.double (FP.l2d x0)), .second]) rfl ?_
    show Steps p.tables e below (s₁.setTop (mkF m 32 #[.val (.ref a1), .val (.double (FP.l2d ((0 : Int64) + x0))), .second, .val (.ref a1), .val (.int (2 : Int32)), .val (.int (1 : Int32)), .val (.double (FP.l2d x0)), .second] [])) _
    refine XS.goto X0.here hx rfl (pc0 := 32) (pc' := 11) rfl (hb hby d1_32) (by decide) (by decide) ?_
    show Steps p.tables e below (s₁.setTop (mkF m 11 #[.val (.ref a1), .val (.double (FP.l2d ((0 : Int64) + x0))), .second, .val (.ref a1), .val (.int (2 : Int32)), .val (.int (1 : Int32)), .val (.double (FP.l2d x0)), .second] [])) _
    refine XS.iload X0.here hx rfl (hb hby d1_11) rfl ?_
    show Steps p.tables e below (s₁.setTop (mkF m 13 #[.val (.ref a1), .val (.double (FP.l2d ((0 : Int64) + x0))), .second, .val (.ref a1), .val (.int (2 : Int32)), .val (.int (1 : Int32)), .val (.double (FP.l2d x0)), .second] [(.int (1 : Int32))])) _
    refine XS.iload X0.here hx rfl (hb hby d1_13) rfl ?_
    show Steps p.tables e below (s₁.setTop (mkF m 15 #[.val (.ref a1), .val (.double (FP.l2d ((0 : Int64) + x0))), .second, .val (.ref a1), .val (.int (2 : Int32)), .val (.int (1 : Int32)), .val (.double (FP.l2d x0)), .second] [(.int (2 : Int32)), (.int (1 : Int32))])) _
    refine XS.icmpNo X0.here hx rfl (hb hby d1_15) rfl (tlt (by decide : (1 : Int32) < (2 : Int32))).2.1 ?_
    show Steps p.tables e below (s₁.setTop (mkF m 18 #[.val (.ref a1), .val (.double (FP.l2d ((0 : Int64) + x0))), .second, .val (.ref a1), .val (.int (2 : Int32)), .val (.int (1 : Int32)), .val (.double (FP.l2d x0)), .second] [])) _
    refine XS.aloadN X0.here hx rfl (hb hby d1_18) rfl rfl ?_
    show Steps p.tables e below (s₁.setTop (mkF m 19 #[.val (.ref a1), .val (.double (FP.l2d ((0 : Int64) + x0))), .second, .val (.ref a1), .val (.int (2 : Int32)), .val (.int (1 : Int32)), .val (.double (FP.l2d x0)), .second] [(.ref a1)])) _
    refine XS.iload X0.here hx rfl (hb hby d1_19) rfl ?_
    show Steps p.tables e below (s₁.setTop (mkF m 21 #[.val (.ref a1), .val (.double (FP.l2d ((0 : Int64) + x0))), .second, .val (.ref a1), .val (.int (2 : Int32)), .val (.int (1 : Int32)), .val (.double (FP.l2d x0)), .second] [(.int (1 : Int32)), (.ref a1)])) _
    refine X0.daload hx (j := (1 : Int32)) (v := (.double (FP.l2d x1))) (by rw [e0]; exact A5.1) (State.isArrayOf_alike hZ.alike A5.2.1) A5.2.2 hin5 hat5 (g := (mkF m 21 #[.val (.ref a1), .val (.double (FP.l2d ((0 : Int64) + x0))), .second, .val (.ref a1), .val (.int (2 : Int32)), .val (.int (1 : Int32)), .val (.double (FP.l2d x0)), .second] [(.int (1 : Int32)), (.ref a1)])) rfl rfl (hb hby d1_21) _ ?_
    show Steps p.tables e below (s₁.setTop (mkF m 22 #[.val (.ref a1), .val (.double (FP.l2d ((0 : Int64) + x0))), .second, .val (.ref a1), .val (.int (2 : Int32)), .val (.int (1 : Int32)), .val (.double (FP.l2d x0)), .second] [(.double (FP.l2d x1))])) _
    refine XS.dstore X0.here hx rfl (hb hby d1_22) rfl (l' := #[.val (.ref a1), .val (.double (FP.l2d ((0 : Int64) + x0))), .second, .val (.ref a1), .val (.int (2 : Int32)), .val (.int (1 : Int32)), .val (.double (FP.l2d x1)), .second]) rfl ?_
    show Steps p.tables e below (s₁.setTop (mkF m 24 #[.val (.ref a1), .val (.double (FP.l2d ((0 : Int64) + x0))), .second, .val (.ref a1), .val (.int (2 : Int32)), .val (.int (1 : Int32)), .val (.double (FP.l2d x1)), .second] [])) _
    refine XS.dloadN X0.here hx rfl (hb hby d1_24) rfl ?_
    show Steps p.tables e below (s₁.setTop (mkF m 25 #[.val (.ref a1), .val (.double (FP.l2d ((0 : Int64) + x0))), .second, .val (.ref a1), .val (.int (2 : Int32)), .val (.int (1 : Int32)), .val (.double (FP.l2d x1)), .second] [(.double (FP.l2d ((0 : Int64) + x0)))])) _
    refine XS.dload X0.here hx rfl (hb hby d1_25) rfl ?_
    show Steps p.tables e below (s₁.setTop (mkF m 27 #[.val (.ref a1), .val (.double (FP.l2d ((0 : Int64) + x0))), .second, .val (.ref a1), .val (.int (2 : Int32)), .val (.int (1 : Int32)), .val (.double (FP.l2d x1)), .second] [(.double (FP.l2d x1)), (.double (FP.l2d ((0 : Int64) + x0)))])) _
    refine XS.daddS X0.here hx rfl (v := (FP.l2d (((0 : Int64) + x0) + x1))) (hb hby d1_27) rfl (nn_w ea6) ea6 ?_
    show Steps p.tables e below (s₁.setTop (mkF m 28 #[.val (.ref a1), .val (.double (FP.l2d ((0 : Int64) + x0))), .second, .val (.ref a1), .val (.int (2 : Int32)), .val (.int (1 : Int32)), .val (.double (FP.l2d x1)), .second] [(.double (FP.l2d (((0 : Int64) + x0) + x1)))])) _
    refine XS.dstoreN X0.here hx rfl (hb hby d1_28) rfl (l' := #[.val (.ref a1), .val (.double (FP.l2d (((0 : Int64) + x0) + x1))), .second, .val (.ref a1), .val (.int (2 : Int32)), .val (.int (1 : Int32)), .val (.double (FP.l2d x1)), .second]) rfl ?_
    show Steps p.tables e below (s₁.setTop (mkF m 29 #[.val (.ref a1), .val (.double (FP.l2d (((0 : Int64) + x0) + x1))), .second, .val (.ref a1), .val (.int (2 : Int32)), .val (.int (1 : Int32)), .val (.double (FP.l2d x1)), .second] [])) _
    refine XS.iinc X0.here hx rfl (hb hby d1_29) rfl (l' := #[.val (.ref a1), .val (.double (FP.l2d (((0 : Int64) + x0) + x1))), .second, .val (.ref a1), .val (.int (2 : Int32)), .val (.int (2 : Int32)), .val (.double (FP.l2d x1)), .second]) rfl ?_
    show Steps p.tables e below (s₁.setTop (mkF m 32 #[.val (.ref a1), .val (.double (FP.l2d (((0 : Int64) + x0) + x1))), .second, .val (.ref a1), .val (.int (2 : Int32)), .val (.int (2 : Int32)), .val (.double (FP.l2d x1)), .second] [])) _
    refine XS.goto X0.here hx rfl (pc0 := 32) (pc' := 11) rfl (hb hby d1_32) (by decide) (by decide) ?_
    show Steps p.tables e below (s₁.setTop (mkF m 11 #[.val (.ref a1), .val (.double (FP.l2d (((0 : Int64) + x0) + x1))), .second, .val (.ref a1), .val (.int (2 : Int32)), .val (.int (2 : Int32)), .val (.double (FP.l2d x1)), .second] [])) _
    refine XS.iload X0.here hx rfl (hb hby d1_11) rfl ?_
    show Steps p.tables e below (s₁.setTop (mkF m 13 #[.val (.ref a1), .val (.double (FP.l2d (((0 : Int64) + x0) + x1))), .second, .val (.ref a1), .val (.int (2 : Int32)), .val (.int (2 : Int32)), .val (.double (FP.l2d x1)), .second] [(.int (2 : Int32))])) _
    refine XS.iload X0.here hx rfl (hb hby d1_13) rfl ?_
    show Steps p.tables e below (s₁.setTop (mkF m 15 #[.val (.ref a1), .val (.double (FP.l2d (((0 : Int64) + x0) + x1))), .second, .val (.ref a1), .val (.int (2 : Int32)), .val (.int (2 : Int32)), .val (.double (FP.l2d x1)), .second] [(.int (2 : Int32)), (.int (2 : Int32))])) _
    refine XS.icmpYes X0.here hx rfl (pc0 := 15) (pc' := 35) rfl (hb hby d1_15) rfl (flt (by decide : ¬ ((2 : Int32) < (2 : Int32)))).2.1 (by decide) (by decide) ?_
    show Steps p.tables e below (s₁.setTop (mkF m 35 #[.val (.ref a1), .val (.double (FP.l2d (((0 : Int64) + x0) + x1))), .second, .val (.ref a1), .val (.int (2 : Int32)), .val (.int (2 : Int32)), .val (.double (FP.l2d x1)), .second] [])) _
    refine XS.dloadN X0.here hx rfl (hb hby d1_35) rfl ?_
    show Steps p.tables e below (s₁.setTop (mkF m 36 #[.val (.ref a1), .val (.double (FP.l2d (((0 : Int64) + x0) + x1))), .second, .val (.ref a1), .val (.int (2 : Int32)), .val (.int (2 : Int32)), .val (.double (FP.l2d x1)), .second] [(.double (FP.l2d (((0 : Int64) + x0) + x1)))])) _
    refine XS.aloadN X0.here hx rfl (hb hby d1_36) rfl rfl ?_
    show Steps p.tables e below (s₁.setTop (mkF m 37 #[.val (.ref a1), .val (.double (FP.l2d (((0 : Int64) + x0) + x1))), .second, .val (.ref a1), .val (.int (2 : Int32)), .val (.int (2 : Int32)), .val (.double (FP.l2d x1)), .second] [(.ref a1), (.double (FP.l2d (((0 : Int64) + x0) + x1)))])) _
    refine X0.arraylength hx (by rw [e0]; exact A8.1) (State.isArrayOf_alike hZ.alike A8.2.1) (g := (mkF m 37 #[.val (.ref a1), .val (.double (FP.l2d (((0 : Int64) + x0) + x1))), .second, .val (.ref a1), .val (.int (2 : Int32)), .val (.int (2 : Int32)), .val (.double (FP.l2d x1)), .second] [(.ref a1), (.double (FP.l2d (((0 : Int64) + x0) + x1)))])) rfl rfl (hb hby d1_37) _ ?_
    rw [AV.len S8 Nl8 M8]
    show Steps p.tables e below (s₁.setTop (mkF m 38 #[.val (.ref a1), .val (.double (FP.l2d (((0 : Int64) + x0) + x1))), .second, .val (.ref a1), .val (.int (2 : Int32)), .val (.int (2 : Int32)), .val (.double (FP.l2d x1)), .second] [(.int (2 : Int32)), (.double (FP.l2d (((0 : Int64) + x0) + x1)))])) _
    refine XS.i2dS X0.here hx rfl (v := (FP.l2d (2 : Int64))) (hb hby d1_38) rfl (i2d_w _) ?_
    show Steps p.tables e below (s₁.setTop (mkF m 39 #[.val (.ref a1), .val (.double (FP.l2d (((0 : Int64) + x0) + x1))), .second, .val (.ref a1), .val (.int (2 : Int32)), .val (.int (2 : Int32)), .val (.double (FP.l2d x1)), .second] [(.double (FP.l2d (2 : Int64))), (.double (FP.l2d (((0 : Int64) + x0) + x1)))])) _
    refine XS.ddivS X0.here hx rfl (v := (FP.ddiv (FP.l2d (((0 : Int64) + x0) + x1)) (FP.l2d (2 : Int64)))) (hb hby d1_39) rfl (own_nn (by decide)) rfl ?_
    show Steps p.tables e below (s₁.setTop (mkF m 40 #[.val (.ref a1), .val (.double (FP.l2d (((0 : Int64) + x0) + x1))), .second, .val (.ref a1), .val (.int (2 : Int32)), .val (.int (2 : Int32)), .val (.double (FP.l2d x1)), .second] [(.double (FP.ddiv (FP.l2d (((0 : Int64) + x0) + x1)) (FP.l2d (2 : Int64))))])) _
    exact retOut X0 hx Bd.returns rfl (Or.inr (Or.inr (Or.inl ⟨rfl, rfl, _, rfl⟩))) (hb hby d1_40) hr
  · show Q1n2 Z a1 x0 x1 h0 n0 _ s₁.heap _
    rw [e0]
    exact ⟨rfl, N0, rfl⟩
theorem ef_1n3 (m : MethodId) (x0 : Addr) : entryFrame m #[(.ref x0)] 8 = mkF m 0 #[.val (.ref x0), .unset, .unset, .unset, .unset, .unset, .unset, .unset] [] := by first | (simp [entryFrame, mkF, argsToLocals, Value.category]; done) | rfl
def Q1n3 (Z : State) (a1 : Addr) (x0 : Int64) (x1 : Int64) (x2 : Int64) (h0 : Heap) (n0 : Nat) (v : Option Value) (h : Heap) (L : List Loc) : Prop := v = some (.double (FP.ddiv (FP.l2d ((((0 : Int64) + x0) + x1) + x2)) (FP.l2d (3 : Int64)))) ∧ Fr n0 L ∧ h = h0
set_option maxRecDepth 65536 in
set_option maxHeartbeats 40000000 in
theorem rm1n3 (l : Launch) (Z : State) (a0 : Array Value) (hw : ∀ d ∈ tables_1, d.before a0 Z = true) (ws : List Jvm.Cond) (a1 : Addr) (x0 : Int64) (x1 : Int64) (x2 : Int64) (h0 : Heap) (n0 : Nat) (Z0 : n0 ≤ h0.size) (V_a1 : AV Z h0 a1 .double (3 : Int32) [(.double (FP.l2d x0)), (.double (FP.l2d x1)), (.double (FP.l2d x2))]) (hx0 : Bd 2147483648 x0) (hx1 : Bd 2147483648 x1) (hx2 : Bd 2147483648 x2) :
    MetFree l (⟨"com/example/byeonhwa/byeonhwa/WelchTest", "mean", "([D)D"⟩ : MethodName) (head1 (Jvm.Cond.code (⟨"com/example/byeonhwa/byeonhwa/WelchTest", "mean", "([D)D"⟩ : MethodName) prog_64_method_4_code 8 (some .double) :: ws) ({ frames := 0, cells := 0, slots := 0, locals := 0 } : Room)) (fun a U => a = #[(.ref a1)] ∧ Z.Warmed39 U.vm ∧ U.heap = h0) (fun _ _ _ _ _ => True) (fun _ U o U' => ∃ v L, o = .returned v ∧ Q1n3 Z a1 x0 x1 x2 h0 n0 v U'.heap L ∧ FrameEnd U o U' L ({ frames := 0, cells := 0, slots := 0, locals := 0 } : Room).cells ({ frames := 0, cells := 0, slots := 0, locals := 0 } : Room).slots) := by
  refine MetFree.of_bodySF (plainFor_of_name pn_0) hisR ?_
  intro p e s m args below meth c s₁ Bd hml0 hP hK
  obtain ⟨rfl, hZ, hh⟩ := hP
  have hx := Bd.exec
  have hby := Bd.bytes
  have hml : c.maxLocals = 8 := hml0
  have hown : s.vm.findClass "com/example/byeonhwa/byeonhwa/WelchTest" = some m.cls := findClass_of_methodNamed Bd.named
  have hnm := (name_of_methodNamed Bd.named Bd.method).1
  have X0 : Stand p l e ({ frames := 0, cells := 0, slots := 0, locals := 0 } : Room) s m #[(.ref a1)] below meth c s₁ [] 0 0 := Stand.of_body Bd
  have e0 : s₁.heap = h0 := by rw [← hh, Bd.state]; rfl
  have N0 := Fr.nil n0
  have pre0 : ∀ t, Steps p.tables e below (s₁.setTop (mkF m 0 #[.val (.ref a1), .unset, .unset, .unset, .unset, .unset, .unset, .unset] [])) t → Steps p.tables e below (s₁.setTop (entryFrame m #[(.ref a1)] 8)) t := fun t k => castTop (ef_1n3 m a1) k
  obtain ⟨cl1, A1, S1, Nl1, M1⟩ := id V_a1
  obtain ⟨cl2, A2, S2, Nl2, M2⟩ := id V_a1
  have hin2 : ¬ ((0 : Int32) < 0 ∨ cl2.slots.size ≤ ((0 : Int32)).toNatClampNeg) := AV.inb S2 Nl2 ⟨by decide, by decide⟩
  have hat2 : cl2.slots[((0 : Int32)).toNatClampNeg]? = some (.double (FP.l2d x0)) := AV.at S2 rfl
  have ea3 := dadd_w (own_53 own_b0 (by decide)) (own_53 hx0 (by decide))
  have bd4 := own_badd own_b0 hx0 (by decide)
  obtain ⟨cl5, A5, S5, Nl5, M5⟩ := id V_a1
  have hin5 : ¬ ((1 : Int32) < 0 ∨ cl5.slots.size ≤ ((1 : Int32)).toNatClampNeg) := AV.inb S5 Nl5 ⟨by decide, by decide⟩
  have hat5 : cl5.slots[((1 : Int32)).toNatClampNeg]? = some (.double (FP.l2d x1)) := AV.at S5 rfl
  have ea6 := dadd_w (own_53 bd4 (by decide)) (own_53 hx1 (by decide))
  have bd7 := own_badd bd4 hx1 (by decide)
  obtain ⟨cl8, A8, S8, Nl8, M8⟩ := id V_a1
  have hin8 : ¬ ((2 : Int32) < 0 ∨ cl8.slots.size ≤ ((2 : Int32)).toNatClampNeg) := AV.inb S8 Nl8 ⟨by decide, by decide⟩
  have hat8 : cl8.slots[((2 : Int32)).toNatClampNeg]? = some (.double (FP.l2d x2)) := AV.at S8 rfl
  have ea9 := dadd_w (own_53 bd7 (by decide)) (own_53 hx2 (by decide))
  have bd10 := own_badd bd7 hx2 (by decide)
  obtain ⟨cl11, A11, S11, Nl11, M11⟩ := id V_a1
  obtain ⟨fs, hr, hrun, hended, hW, hsame⟩ := X0.leave (v := some (.double (FP.ddiv (FP.l2d ((((0 : Int64) + x0) + x1) + x2)) (FP.l2d (3 : Int64))))) (fun h => by rw [Bd.returns] at h; cases h)
  refine ⟨_, _, pre0 _ ?_, hrun, hended, _, _, rfl, ?_, ⟨_, rfl⟩, hW, hsame.mono (by decide) (by decide)⟩
  · show Steps p.tables e below (s₁.setTop (mkF m 0 #[.val (.ref a1), .unset, .unset, .unset, .unset, .unset, .unset, .unset] [])) _
    refine XS.dconst0 X0.here hx rfl (v := (FP.l2d (0 : Int64))) (hb hby d1_0) own_d0 ?_
    show Steps p.tables e below (s₁.setTop (mkF m 1 #[.val (.ref a1), .unset, .unset, .unset, .unset, .unset, .unset, .unset] [(.double (FP.l2d (0 : Int64)))])) _
    refine XS.dstoreN X0.here hx rfl (hb hby d1_1) rfl (l' := #[.val (.ref a1), .val (.double (FP.l2d (0 : Int64))), .second, .unset, .unset, .unset, .unset, .unset]) rfl ?_
    show Steps p.tables e below (s₁.setTop (mkF m 2 #[.val (.ref a1), .val (.double (FP.l2d (0 : Int64))), .second, .unset, .unset, .unset, .unset, .unset] [])) _
    refine XS.aloadN X0.here hx rfl (hb hby d1_2) rfl rfl ?_
    show Steps p.tables e below (s₁.setTop (mkF m 3 #[.val (.ref a1), .val (.double (FP.l2d (0 : Int64))), .second, .unset, .unset, .unset, .unset, .unset] [(.ref a1)])) _
    refine XS.astoreN X0.here hx rfl (hb hby d1_3) rfl rfl (l' := #[.val (.ref a1), .val (.double (FP.l2d (0 : Int64))), .second, .val (.ref a1), .unset, .unset, .unset, .unset]) rfl ?_
    show Steps p.tables e below (s₁.setTop (mkF m 4 #[.val (.ref a1), .val (.double (FP.l2d (0 : Int64))), .second, .val (.ref a1), .unset, .unset, .unset, .unset] [])) _
    refine XS.aloadN X0.here hx rfl (hb hby d1_4) rfl rfl ?_
    show Steps p.tables e below (s₁.setTop (mkF m 5 #[.val (.ref a1), .val (.double (FP.l2d (0 : Int64))), .second, .val (.ref a1), .unset, .unset, .unset, .unset] [(.ref a1)])) _
    refine X0.arraylength hx (by rw [e0]; exact A1.1) (State.isArrayOf_alike hZ.alike A1.2.1) (g := (mkF m 5 #[.val (.ref a1), .val (.double (FP.l2d (0 : Int64))), .second, .val (.ref a1), .unset, .unset, .unset, .unset] [(.ref a1)])) rfl rfl (hb hby d1_5) _ ?_
    rw [AV.len S1 Nl1 M1]
    show Steps p.tables e below (s₁.setTop (mkF m 6 #[.val (.ref a1), .val (.double (FP.l2d (0 : Int64))), .second, .val (.ref a1), .unset, .unset, .unset, .unset] [(.int (3 : Int32))])) _
    refine XS.istore X0.here hx rfl (hb hby d1_6) rfl (l' := #[.val (.ref a1), .val (.double (FP.l2d (0 : Int64))), .second, .val (.ref a1), .val (.int (3 : Int32)), .unset, .unset, .unset]) rfl ?_
    show Steps p.tables e below (s₁.setTop (mkF m 8 #[.val (.ref a1), .val (.double (FP.l2d (0 : Int64))), .second, .val (.ref a1), .val (.int (3 : Int32)), .unset, .unset, .unset] [])) _
    refine XS.iconst X0.here hx rfl (hb hby d1_8) ?_
    show Steps p.tables e below (s₁.setTop (mkF m 9 #[.val (.ref a1), .val (.double (FP.l2d (0 : Int64))), .second, .val (.ref a1), .val (.int (3 : Int32)), .unset, .unset, .unset] [(.int (0 : Int32))])) _
    refine XS.istore X0.here hx rfl (hb hby d1_9) rfl (l' := #[.val (.ref a1), .val (.double (FP.l2d (0 : Int64))), .second, .val (.ref a1), .val (.int (3 : Int32)), .val (.int (0 : Int32)), .unset, .unset]) rfl ?_
    show Steps p.tables e below (s₁.setTop (mkF m 11 #[.val (.ref a1), .val (.double (FP.l2d (0 : Int64))), .second, .val (.ref a1), .val (.int (3 : Int32)), .val (.int (0 : Int32)), .unset, .unset] [])) _
    refine XS.iload X0.here hx rfl (hb hby d1_11) rfl ?_
    show Steps p.tables e below (s₁.setTop (mkF m 13 #[.val (.ref a1), .val (.double (FP.l2d (0 : Int64))), .second, .val (.ref a1), .val (.int (3 : Int32)), .val (.int (0 : Int32)), .unset, .unset] [(.int (0 : Int32))])) _
    refine XS.iload X0.here hx rfl (hb hby d1_13) rfl ?_
    show Steps p.tables e below (s₁.setTop (mkF m 15 #[.val (.ref a1), .val (.double (FP.l2d (0 : Int64))), .second, .val (.ref a1), .val (.int (3 : Int32)), .val (.int (0 : Int32)), .unset, .unset] [(.int (3 : Int32)), (.int (0 : Int32))])) _
    refine XS.icmpNo X0.here hx rfl (hb hby d1_15) rfl (tlt (by decide : (0 : Int32) < (3 : Int32))).2.1 ?_
    show Steps p.tables e below (s₁.setTop (mkF m 18 #[.val (.ref a1), .val (.double (FP.l2d (0 : Int64))), .second, .val (.ref a1), .val (.int (3 : Int32)), .val (.int (0 : Int32)), .unset, .unset] [])) _
    refine XS.aloadN X0.here hx rfl (hb hby d1_18) rfl rfl ?_
    show Steps p.tables e below (s₁.setTop (mkF m 19 #[.val (.ref a1), .val (.double (FP.l2d (0 : Int64))), .second, .val (.ref a1), .val (.int (3 : Int32)), .val (.int (0 : Int32)), .unset, .unset] [(.ref a1)])) _
    refine XS.iload X0.here hx rfl (hb hby d1_19) rfl ?_
    show Steps p.tables e below (s₁.setTop (mkF m 21 #[.val (.ref a1), .val (.double (FP.l2d (0 : Int64))), .second, .val (.ref a1), .val (.int (3 : Int32)), .val (.int (0 : Int32)), .unset, .unset] [(.int (0 : Int32)), (.ref a1)])) _
    refine X0.daload hx (j := (0 : Int32)) (v := (.double (FP.l2d x0))) (by rw [e0]; exact A2.1) (State.isArrayOf_alike hZ.alike A2.2.1) A2.2.2 hin2 hat2 (g := (mkF m 21 #[.val (.ref a1), .val (.double (FP.l2d (0 : Int64))), .second, .val (.ref a1), .val (.int (3 : Int32)), .val (.int (0 : Int32)), .unset, .unset] [(.int (0 : Int32)), (.ref a1)])) rfl rfl (hb hby d1_21) _ ?_
    show Steps p.tables e below (s₁.setTop (mkF m 22 #[.val (.ref a1), .val (.double (FP.l2d (0 : Int64))), .second, .val (.ref a1), .val (.int (3 : Int32)), .val (.int (0 : Int32)), .unset, .unset] [(.double (FP.l2d x0))])) _
    refine XS.dstore X0.here hx rfl (hb hby d1_22) rfl (l' := #[.val (.ref a1), .val (.double (FP.l2d (0 : Int64))), .second, .val (.ref a1), .val (.int (3 : Int32)), .val (.int (0 : Int32)), .val (.double (FP.l2d x0)), .second]) rfl ?_
    show Steps p.tables e below (s₁.setTop (mkF m 24 #[.val (.ref a1), .val (.double (FP.l2d (0 : Int64))), .second, .val (.ref a1), .val (.int (3 : Int32)), .val (.int (0 : Int32)), .val (.double (FP.l2d x0)), .second] [])) _
    refine XS.dloadN X0.here hx rfl (hb hby d1_24) rfl ?_
    show Steps p.tables e below (s₁.setTop (mkF m 25 #[.val (.ref a1), .val (.double (FP.l2d (0 : Int64))), .second, .val (.ref a1), .val (.int (3 : Int32)), .val (.int (0 : Int32)), .val (.double (FP.l2d x0)), .second] [(.double (FP.l2d (0 : Int64)))])) _
    refine XS.dload X0.here hx rfl (hb hby d1_25) rfl ?_
    show Steps p.tables e below (s₁.setTop (mkF m 27 #[.val (.ref a1), .val (.double (FP.l2d (0 : Int64))), .second, .val (.ref a1), .val (.int (3 : Int32)), .val (.int (0 : Int32)), .val (.double (FP.l2d x0)), .second] [(.double (FP.l2d x0)), (.double (FP.l2d (0 : Int64)))])) _
    refine XS.daddS X0.here hx rfl (v := (FP.l2d ((0 : Int64) + x0))) (hb hby d1_27) rfl (nn_w ea3) ea3 ?_
    show Steps p.tables e below (s₁.setTop (mkF m 28 #[.val (.ref a1), .val (.double (FP.l2d (0 : Int64))), .second, .val (.ref a1), .val (.int (3 : Int32)), .val (.int (0 : Int32)), .val (.double (FP.l2d x0)), .second] [(.double (FP.l2d ((0 : Int64) + x0)))])) _
    refine XS.dstoreN X0.here hx rfl (hb hby d1_28) rfl (l' := #[.val (.ref a1), .val (.double (FP.l2d ((0 : Int64) + x0))), .second, .val (.ref a1), .val (.int (3 : Int32)), .val (.int (0 : Int32)), .val (.double (FP.l2d x0)), .second]) rfl ?_
    show Steps p.tables e below (s₁.setTop (mkF m 29 #[.val (.ref a1), .val (.double (FP.l2d ((0 : Int64) + x0))), .second, .val (.ref a1), .val (.int (3 : Int32)), .val (.int (0 : Int32)), .val (.double (FP.l2d x0)), .second] [])) _
    refine XS.iinc X0.here hx rfl (hb hby d1_29) rfl (l' := #[.val (.ref a1), .val (.double (FP.l2d ((0 : Int64) + x0))), .second, .val (.ref a1), .val (.int (3 : Int32)), .val (.int (1 : Int32)), .val (.double (FP.l2d x0)), .second]) rfl ?_
    show Steps p.tables e below (s₁.setTop (mkF m 32 #[.val (.ref a1), .val (.double (FP.l2d ((0 : Int64) + x0))), .second, .val (.ref a1), .val (.int (3 : Int32)), .val (.int (1 : Int32)), .val (.double (FP.l2d x0)), .second] [])) _
    refine XS.goto X0.here hx rfl (pc0 := 32) (pc' := 11) rfl (hb hby d1_32) (by decide) (by decide) ?_
    show Steps p.tables e below (s₁.setTop (mkF m 11 #[.val (.ref a1), .val (.double (FP.l2d ((0 : Int64) + x0))), .second, .val (.ref a1), .val (.int (3 : Int32)), .val (.int (1 : Int32)), .val (.double (FP.l2d x0)), .second] [])) _
    refine XS.iload X0.here hx rfl (hb hby d1_11) rfl ?_
    show Steps p.tables e below (s₁.setTop (mkF m 13 #[.val (.ref a1), .val (.double (FP.l2d ((0 : Int64) + x0))), .second, .val (.ref a1), .val (.int (3 : Int32)), .val (.int (1 : Int32)), .val (.double (FP.l2d x0)), .second] [(.int (1 : Int32))])) _
    refine XS.iload X0.here hx rfl (hb hby d1_13) rfl ?_
    show Steps p.tables e below (s₁.setTop (mkF m 15 #[.val (.ref a1), .val (.double (FP.l2d ((0 : Int64) + x0))), .second, .val (.ref a1), .val (.int (3 : Int32)), .val (.int (1 : Int32)), .val (.double (FP.l2d x0)), .second] [(.int (3 : Int32)), (.int (1 : Int32))])) _
    refine XS.icmpNo X0.here hx rfl (hb hby d1_15) rfl (tlt (by decide : (1 : Int32) < (3 : Int32))).2.1 ?_
    show Steps p.tables e below (s₁.setTop (mkF m 18 #[.val (.ref a1), .val (.double (FP.l2d ((0 : Int64) + x0))), .second, .val (.ref a1), .val (.int (3 : Int32)), .val (.int (1 : Int32)), .val (.double (FP.l2d x0)), .second] [])) _
    refine XS.aloadN X0.here hx rfl (hb hby d1_18) rfl rfl ?_
    show Steps p.tables e below (s₁.setTop (mkF m 19 #[.val (.ref a1), .val (.double (FP.l2d ((0 : Int64) + x0))), .second, .val (.ref a1), .val (.int (3 : Int32)), .val (.int (1 : Int32)), .val (.double (FP.l2d x0)), .second] [(.ref a1)])) _
    refine XS.iload X0.here hx rfl (hb hby d1_19) rfl ?_
    show Steps p.tables e below (s₁.setTop (mkF m 21 #[.val (.ref a1), .val (.double (FP.l2d ((0 : Int64) + x0))), .second, .val (.ref a1), .val (.int (3 : Int32)), .val (.int (1 : Int32)), .val (.double (FP.l2d x0)), .second] [(.int (1 : Int32)), (.ref a1)])) _
    refine X0.daload hx (j := (1 : Int32)) (v := (.double (FP.l2d x1))) (by rw [e0]; exact A5.1) (State.isArrayOf_alike hZ.alike A5.2.1) A5.2.2 hin5 hat5 (g := (mkF m 21 #[.val (.ref a1), .val (.double (FP.l2d ((0 : Int64) + x0))), .second, .val (.ref a1), .val (.int (3 : Int32)), .val (.int (1 : Int32)), .val (.double (FP.l2d x0)), .second] [(.int (1 : Int32)), (.ref a1)])) rfl rfl (hb hby d1_21) _ ?_
    show Steps p.tables e below (s₁.setTop (mkF m 22 #[.val (.ref a1), .val (.double (FP.l2d ((0 : Int64) + x0))), .second, .val (.ref a1), .val (.int (3 : Int32)), .val (.int (1 : Int32)), .val (.double (FP.l2d x0)), .second] [(.double (FP.l2d x1))])) _
    refine XS.dstore X0.here hx rfl (hb hby d1_22) rfl (l' := #[.val (.ref a1), .val (.double (FP.l2d ((0 : Int64) + x0))), .second, .val (.ref a1), .val (.int (3 : Int32)), .val (.int (1 : Int32)), .val (.double (FP.l2d x1)), .second]) rfl ?_
    show Steps p.tables e below (s₁.setTop (mkF m 24 #[.val (.ref a1), .val (.double (FP.l2d ((0 : Int64) + x0))), .second, .val (.ref a1), .val (.int (3 : Int32)), .val (.int (1 : Int32)), .val (.double (FP.l2d x1)), .second] [])) _
    refine XS.dloadN X0.here hx rfl (hb hby d1_24) rfl ?_
    show Steps p.tables e below (s₁.setTop (mkF m 25 #[.val (.ref a1), .val (.double (FP.l2d ((0 : Int64) + x0))), .second, .val (.ref a1), .val (.int (3 : Int32)), .val (.int (1 : Int32)), .val (.double (FP.l2d x1)), .second] [(.double (FP.l2d ((0 : Int64) + x0)))])) _
    refine XS.dload X0.here hx rfl (hb hby d1_25) rfl ?_
    show Steps p.tables e below (s₁.setTop (mkF m 27 #[.val (.ref a1), .val (.double (FP.l2d ((0 : Int64) + x0))), .second, .val (.ref a1), .val (.int (3 : Int32)), .val (.int (1 : Int32)), .val (.double (FP.l2d x1)), .second] [(.double (FP.l2d x1)), (.double (FP.l2d ((0 : Int64) + x0)))])) _
    refine XS.daddS X0.here hx rfl (v := (FP.l2d (((0 : Int64) + x0) + x1))) (hb hby d1_27) rfl (nn_w ea6) ea6 ?_
    show Steps p.tables e below (s₁.setTop (mkF m 28 #[.val (.ref a1), .val (.double (FP.l2d ((0 : Int64) + x0))), .second, .val (.ref a1), .val (.int (3 : Int32)), .val (.int (1 : Int32)), .val (.double (FP.l2d x1)), .second] [(.double (FP.l2d (((0 : Int64) + x0) + x1)))])) _
    refine XS.dstoreN X0.here hx rfl (hb hby d1_28) rfl (l' := #[.val (.ref a1), .val (.double (FP.l2d (((0 : Int64) + x0) + x1))), .second, .val (.ref a1), .val (.int (3 : Int32)), .val (.int (1 : Int32)), .val (.double (FP.l2d x1)), .second]) rfl ?_
    show Steps p.tables e below (s₁.setTop (mkF m 29 #[.val (.ref a1), .val (.double (FP.l2d (((0 : Int64) + x0) + x1))), .second, .val (.ref a1), .val (.int (3 : Int32)), .val (.int (1 : Int32)), .val (.double (FP.l2d x1)), .second] [])) _
    refine XS.iinc X0.here hx rfl (hb hby d1_29) rfl (l' := #[.val (.ref a1), .val (.double (FP.l2d (((0 : Int64) + x0) + x1))), .second, .val (.ref a1), .val (.int (3 : Int32)), .val (.int (2 : Int32)), .val (.double (FP.l2d x1)), .second]) rfl ?_
    show Steps p.tables e below (s₁.setTop (mkF m 32 #[.val (.ref a1), .val (.double (FP.l2d (((0 : Int64) + x0) + x1))), .second, .val (.ref a1), .val (.int (3 : Int32)), .val (.int (2 : Int32)), .val (.double (FP.l2d x1)), .second] [])) _
    refine XS.goto X0.here hx rfl (pc0 := 32) (pc' := 11) rfl (hb hby d1_32) (by decide) (by decide) ?_
    show Steps p.tables e below (s₁.setTop (mkF m 11 #[.val (.ref a1), .val (.double (FP.l2d (((0 : Int64) + x0) + x1))), .second, .val (.ref a1), .val (.int (3 : Int32)), .val (.int (2 : Int32)), .val (.double (FP.l2d x1)), .second] [])) _
    refine XS.iload X0.here hx rfl (hb hby d1_11) rfl ?_
    show Steps p.tables e below (s₁.setTop (mkF m 13 #[.val (.ref a1), .val (.double (FP.l2d (((0 : Int64) + x0) + x1))), .second, .val (.ref a1), .val (.int (3 : Int32)), .val (.int (2 : Int32)), .val (.double (FP.l2d x1)), .second] [(.int (2 : Int32))])) _
    refine XS.iload X0.here hx rfl (hb hby d1_13) rfl ?_
    show Steps p.tables e below (s₁.setTop (mkF m 15 #[.val (.ref a1), .val (.double (FP.l2d (((0 : Int64) + x0) + x1))), .second, .val (.ref a1), .val (.int (3 : Int32)), .val (.int (2 : Int32)), .val (.double (FP.l2d x1)), .second] [(.int (3 : Int32)), (.int (2 : Int32))])) _
    refine XS.icmpNo X0.here hx rfl (hb hby d1_15) rfl (tlt (by decide : (2 : Int32) < (3 : Int32))).2.1 ?_
    show Steps p.tables e below (s₁.setTop (mkF m 18 #[.val (.ref a1), .val (.double (FP.l2d (((0 : Int64) + x0) + x1))), .second, .val (.ref a1), .val (.int (3 : Int32)), .val (.int (2 : Int32)), .val (.double (FP.l2d x1)), .second] [])) _
    refine XS.aloadN X0.here hx rfl (hb hby d1_18) rfl rfl ?_
    show Steps p.tables e below (s₁.setTop (mkF m 19 #[.val (.ref a1), .val (.double (FP.l2d (((0 : Int64) + x0) + x1))), .second, .val (.ref a1), .val (.int (3 : Int32)), .val (.int (2 : Int32)), .val (.double (FP.l2d x1)), .second] [(.ref a1)])) _
    refine XS.iload X0.here hx rfl (hb hby d1_19) rfl ?_
    show Steps p.tables e below (s₁.setTop (mkF m 21 #[.val (.ref a1), .val (.double (FP.l2d (((0 : Int64) + x0) + x1))), .second, .val (.ref a1), .val (.int (3 : Int32)), .val (.int (2 : Int32)), .val (.double (FP.l2d x1)), .second] [(.int (2 : Int32)), (.ref a1)])) _
    refine X0.daload hx (j := (2 : Int32)) (v := (.double (FP.l2d x2))) (by rw [e0]; exact A8.1) (State.isArrayOf_alike hZ.alike A8.2.1) A8.2.2 hin8 hat8 (g := (mkF m 21 #[.val (.ref a1), .val (.double (FP.l2d (((0 : Int64) + x0) + x1))), .second, .val (.ref a1), .val (.int (3 : Int32)), .val (.int (2 : Int32)), .val (.double (FP.l2d x1)), .second] [(.int (2 : Int32)), (.ref a1)])) rfl rfl (hb hby d1_21) _ ?_
    show Steps p.tables e below (s₁.setTop (mkF m 22 #[.val (.ref a1), .val (.double (FP.l2d (((0 : Int64) + x0) + x1))), .second, .val (.ref a1), .val (.int (3 : Int32)), .val (.int (2 : Int32)), .val (.double (FP.l2d x1)), .second] [(.double (FP.l2d x2))])) _
    refine XS.dstore X0.here hx rfl (hb hby d1_22) rfl (l' := #[.val (.ref a1), .val (.double (FP.l2d (((0 : Int64) + x0) + x1))), .second, .val (.ref a1), .val (.int (3 : Int32)), .val (.int (2 : Int32)), .val (.double (FP.l2d x2)), .second]) rfl ?_
    show Steps p.tables e below (s₁.setTop (mkF m 24 #[.val (.ref a1), .val (.double (FP.l2d (((0 : Int64) + x0) + x1))), .second, .val (.ref a1), .val (.int (3 : Int32)), .val (.int (2 : Int32)), .val (.double (FP.l2d x2)), .second] [])) _
    refine XS.dloadN X0.here hx rfl (hb hby d1_24) rfl ?_
    show Steps p.tables e below (s₁.setTop (mkF m 25 #[.val (.ref a1), .val (.double (FP.l2d (((0 : Int64) + x0) + x1))), .second, .val (.ref a1), .val (.int (3 : Int32)), .val (.int (2 : Int32)), .val (.double (FP.l2d x2)), .second] [(.double (FP.l2d (((0 : Int64) + x0) + x1)))])) _
    refine XS.dload X0.here hx rfl (hb hby d1_25) rfl ?_
    show Steps p.tables e below (s₁.setTop (mkF m 27 #[.val (.ref a1), .val (.double (FP.l2d (((0 : Int64) + x0) + x1))), .second, .val (.ref a1), .val (.int (3 : Int32)), .val (.int (2 : Int32)), .val (.double (FP.l2d x2)), .second] [(.double (FP.l2d x2)), (.double (FP.l2d (((0 : Int64) + x0) + x1)))])) _
    refine XS.daddS X0.here hx rfl (v := (FP.l2d ((((0 : Int64) + x0) + x1) + x2))) (hb hby d1_27) rfl (nn_w ea9) ea9 ?_
    show Steps p.tables e below (s₁.setTop (mkF m 28 #[.val (.ref a1), .val (.double (FP.l2d (((0 : Int64) + x0) + x1))), .second, .val (.ref a1), .val (.int (3 : Int32)), .val (.int (2 : Int32)), .val (.double (FP.l2d x2)), .second] [(.double (FP.l2d ((((0 : Int64) + x0) + x1) + x2)))])) _
    refine XS.dstoreN X0.here hx rfl (hb hby d1_28) rfl (l' := #[.val (.ref a1), .val (.double (FP.l2d ((((0 : Int64) + x0) + x1) + x2))), .second, .val (.ref a1), .val (.int (3 : Int32)), .val (.int (2 : Int32)), .val (.double (FP.l2d x2)), .second]) rfl ?_
    show Steps p.tables e below (s₁.setTop (mkF m 29 #[.val (.ref a1), .val (.double (FP.l2d ((((0 : Int64) + x0) + x1) + x2))), .second, .val (.ref a1), .val (.int (3 : Int32)), .val (.int (2 : Int32)), .val (.double (FP.l2d x2)), .second] [])) _
    refine XS.iinc X0.here hx rfl (hb hby d1_29) rfl (l' := #[.val (.ref a1), .val (.double (FP.l2d ((((0 : Int64) + x0) + x1) + x2))), .second, .val (.ref a1), .val (.int (3 : Int32)), .val (.int (3 : Int32)), .val (.double (FP.l2d x2)), .second]) rfl ?_
    show Steps p.tables e below (s₁.setTop (mkF m 32 #[.val (.ref a1), .val (.double (FP.l2d ((((0 : Int64) + x0) + x1) + x2))), .second, .val (.ref a1), .val (.int (3 : Int32)), .val (.int (3 : Int32)), .val (.double (FP.l2d x2)), .second] [])) _
    refine XS.goto X0.here hx rfl (pc0 := 32) (pc' := 11) rfl (hb hby d1_32) (by decide) (by decide) ?_
    show Steps p.tables e below (s₁.setTop (mkF m 11 #[.val (.ref a1), .val (.double (FP.l2d ((((0 : Int64) + x0) + x1) + x2))), .second, .val (.ref a1), .val (.int (3 : Int32)), .val (.int (3 : Int32)), .val (.double (FP.l2d x2)), .second] [])) _
    refine XS.iload X0.here hx rfl (hb hby d1_11) rfl ?_
    show Steps p.tables e below (s₁.setTop (mkF m 13 #[.val (.ref a1), .val (.double (FP.l2d ((((0 : Int64) + x0) + x1) + x2))), .second, .val (.ref a1), .val (.int (3 : Int32)), .val (.int (3 : Int32)), .val (.double (FP.l2d x2)), .second] [(.int (3 : Int32))])) _
    refine XS.iload X0.here hx rfl (hb hby d1_13) rfl ?_
    show Steps p.tables e below (s₁.setTop (mkF m 15 #[.val (.ref a1), .val (.double (FP.l2d ((((0 : Int64) + x0) + x1) + x2))), .second, .val (.ref a1), .val (.int (3 : Int32)), .val (.int (3 : Int32)), .val (.double (FP.l2d x2)), .second] [(.int (3 : Int32)), (.int (3 : Int32))])) _
    refine XS.icmpYes X0.here hx rfl (pc0 := 15) (pc' := 35) rfl (hb hby d1_15) rfl (flt (by decide : ¬ ((3 : Int32) < (3 : Int32)))).2.1 (by decide) (by decide) ?_
    show Steps p.tables e below (s₁.setTop (mkF m 35 #[.val (.ref a1), .val (.double (FP.l2d ((((0 : Int64) + x0) + x1) + x2))), .second, .val (.ref a1), .val (.int (3 : Int32)), .val (.int (3 : Int32)), .val (.double (FP.l2d x2)), .second] [])) _
    refine XS.dloadN X0.here hx rfl (hb hby d1_35) rfl ?_
    show Steps p.tables e below (s₁.setTop (mkF m 36 #[.val (.ref a1), .val (.double (FP.l2d ((((0 : Int64) + x0) + x1) + x2))), .second, .val (.ref a1), .val (.int (3 : Int32)), .val (.int (3 : Int32)), .val (.double (FP.l2d x2)), .second] [(.double (FP.l2d ((((0 : Int64) + x0) + x1) + x2)))])) _
    refine XS.aloadN X0.here hx rfl (hb hby d1_36) rfl rfl ?_
    show Steps p.tables e below (s₁.setTop (mkF m 37 #[.val (.ref a1), .val (.double (FP.l2d ((((0 : Int64) + x0) + x1) + x2))), .second, .val (.ref a1), .val (.int (3 : Int32)), .val (.int (3 : Int32)), .val (.double (FP.l2d x2)), .second] [(.ref a1), (.double (FP.l2d ((((0 : Int64) + x0) + x1) + x2)))])) _
    refine X0.arraylength hx (by rw [e0]; exact A11.1) (State.isArrayOf_alike hZ.alike A11.2.1) (g := (mkF m 37 #[.val (.ref a1), .val (.double (FP.l2d ((((0 : Int64) + x0) + x1) + x2))), .second, .val (.ref a1), .val (.int (3 : Int32)), .val (.int (3 : Int32)), .val (.double (FP.l2d x2)), .second] [(.ref a1), (.double (FP.l2d ((((0 : Int64) + x0) + x1) + x2)))])) rfl rfl (hb hby d1_37) _ ?_
    rw [AV.len S11 Nl11 M11]
    show Steps p.tables e below (s₁.setTop (mkF m 38 #[.val (.ref a1), .val (.double (FP.l2d ((((0 : Int64) + x0) + x1) + x2))), .second, .val (.ref a1), .val (.int (3 : Int32)), .val (.int (3 : Int32)), .val (.double (FP.l2d x2)), .second] [(.int (3 : Int32)), (.double (FP.l2d ((((0 : Int64) + x0) + x1) + x2)))])) _
    refine XS.i2dS X0.here hx rfl (v := (FP.l2d (3 : Int64))) (hb hby d1_38) rfl (i2d_w _) ?_
    show Steps p.tables e below (s₁.setTop (mkF m 39 #[.val (.ref a1), .val (.double (FP.l2d ((((0 : Int64) + x0) + x1) + x2))), .second, .val (.ref a1), .val (.int (3 : Int32)), .val (.int (3 : Int32)), .val (.double (FP.l2d x2)), .second] [(.double (FP.l2d (3 : Int64))), (.double (FP.l2d ((((0 : Int64) + x0) + x1) + x2)))])) _
    refine XS.ddivS X0.here hx rfl (v := (FP.ddiv (FP.l2d ((((0 : Int64) + x0) + x1) + x2)) (FP.l2d (3 : Int64)))) (hb hby d1_39) rfl (own_nn (by decide)) rfl ?_
    show Steps p.tables e below (s₁.setTop (mkF m 40 #[.val (.ref a1), .val (.double (FP.l2d ((((0 : Int64) + x0) + x1) + x2))), .second, .val (.ref a1), .val (.int (3 : Int32)), .val (.int (3 : Int32)), .val (.double (FP.l2d x2)), .second] [(.double (FP.ddiv (FP.l2d ((((0 : Int64) + x0) + x1) + x2)) (FP.l2d (3 : Int64))))])) _
    exact retOut X0 hx Bd.returns rfl (Or.inr (Or.inr (Or.inl ⟨rfl, rfl, _, rfl⟩))) (hb hby d1_40) hr
  · show Q1n3 Z a1 x0 x1 x2 h0 n0 _ s₁.heap _
    rw [e0]
    exact ⟨rfl, N0, rfl⟩
theorem ef_1n4 (m : MethodId) (x0 : Addr) : entryFrame m #[(.ref x0)] 8 = mkF m 0 #[.val (.ref x0), .unset, .unset, .unset, .unset, .unset, .unset, .unset] [] := by first | (simp [entryFrame, mkF, argsToLocals, Value.category]; done) | rfl
def Q1n4 (Z : State) (a1 : Addr) (x0 : Int64) (x1 : Int64) (x2 : Int64) (x3 : Int64) (h0 : Heap) (n0 : Nat) (v : Option Value) (h : Heap) (L : List Loc) : Prop := v = some (.double (FP.ddiv (FP.l2d (((((0 : Int64) + x0) + x1) + x2) + x3)) (FP.l2d (4 : Int64)))) ∧ Fr n0 L ∧ h = h0
set_option maxRecDepth 65536 in
set_option maxHeartbeats 40000000 in
theorem rm1n4 (l : Launch) (Z : State) (a0 : Array Value) (hw : ∀ d ∈ tables_1, d.before a0 Z = true) (ws : List Jvm.Cond) (a1 : Addr) (x0 : Int64) (x1 : Int64) (x2 : Int64) (x3 : Int64) (h0 : Heap) (n0 : Nat) (Z0 : n0 ≤ h0.size) (V_a1 : AV Z h0 a1 .double (4 : Int32) [(.double (FP.l2d x0)), (.double (FP.l2d x1)), (.double (FP.l2d x2)), (.double (FP.l2d x3))]) (hx0 : Bd 2147483648 x0) (hx1 : Bd 2147483648 x1) (hx2 : Bd 2147483648 x2) (hx3 : Bd 2147483648 x3) :
    MetFree l (⟨"com/example/byeonhwa/byeonhwa/WelchTest", "mean", "([D)D"⟩ : MethodName) (head1 (Jvm.Cond.code (⟨"com/example/byeonhwa/byeonhwa/WelchTest", "mean", "([D)D"⟩ : MethodName) prog_64_method_4_code 8 (some .double) :: ws) ({ frames := 0, cells := 0, slots := 0, locals := 0 } : Room)) (fun a U => a = #[(.ref a1)] ∧ Z.Warmed39 U.vm ∧ U.heap = h0) (fun _ _ _ _ _ => True) (fun _ U o U' => ∃ v L, o = .returned v ∧ Q1n4 Z a1 x0 x1 x2 x3 h0 n0 v U'.heap L ∧ FrameEnd U o U' L ({ frames := 0, cells := 0, slots := 0, locals := 0 } : Room).cells ({ frames := 0, cells := 0, slots := 0, locals := 0 } : Room).slots) := by
  refine MetFree.of_bodySF (plainFor_of_name pn_0) hisR ?_
  intro p e s m args below meth c s₁ Bd hml0 hP hK
  obtain ⟨rfl, hZ, hh⟩ := hP
  have hx := Bd.exec
  have hby := Bd.bytes
  have hml : c.maxLocals = 8 := hml0
  have hown : s.vm.findClass "com/example/byeonhwa/byeonhwa/WelchTest" = some m.cls := findClass_of_methodNamed Bd.named
  have hnm := (name_of_methodNamed Bd.named Bd.method).1
  have X0 : Stand p l e ({ frames := 0, cells := 0, slots := 0, locals := 0 } : Room) s m #[(.ref a1)] below meth c s₁ [] 0 0 := Stand.of_body Bd
  have e0 : s₁.heap = h0 := by rw [← hh, Bd.state]; rfl
  have N0 := Fr.nil n0
  have pre0 : ∀ t, Steps p.tables e below (s₁.setTop (mkF m 0 #[.val (.ref a1), .unset, .unset, .unset, .unset, .unset, .unset, .unset] [])) t → Steps p.tables e below (s₁.setTop (entryFrame m #[(.ref a1)] 8)) t := fun t k => castTop (ef_1n4 m a1) k
  obtain ⟨cl1, A1, S1, Nl1, M1⟩ := id V_a1
  obtain ⟨cl2, A2, S2, Nl2, M2⟩ := id V_a1
  have hin2 : ¬ ((0 : Int32) < 0 ∨ cl2.slots.size ≤ ((0 : Int32)).toNatClampNeg) := AV.inb S2 Nl2 ⟨by decide, by decide⟩
  have hat2 : cl2.slots[((0 : Int32)).toNatClampNeg]? = some (.double (FP.l2d x0)) := AV.at S2 rfl
  have ea3 := dadd_w (own_53 own_b0 (by decide)) (own_53 hx0 (by decide))
  have bd4 := own_badd own_b0 hx0 (by decide)
  obtain ⟨cl5, A5, S5, Nl5, M5⟩ := id V_a1
  have hin5 : ¬ ((1 : Int32) < 0 ∨ cl5.slots.size ≤ ((1 : Int32)).toNatClampNeg) := AV.inb S5 Nl5 ⟨by decide, by decide⟩
  have hat5 : cl5.slots[((1 : Int32)).toNatClampNeg]? = some (.double (FP.l2d x1)) := AV.at S5 rfl
  have ea6 := dadd_w (own_53 bd4 (by decide)) (own_53 hx1 (by decide))
  have bd7 := own_badd bd4 hx1 (by decide)
  obtain ⟨cl8, A8, S8, Nl8, M8⟩ := id V_a1
  have hin8 : ¬ ((2 : Int32) < 0 ∨ cl8.slots.size ≤ ((2 : Int32)).toNatClampNeg) := AV.inb S8 Nl8 ⟨by decide, by decide⟩
  have hat8 : cl8.slots[((2 : Int32)).toNatClampNeg]? = some (.double (FP.l2d x2)) := AV.at S8 rfl
  have ea9 := dadd_w (own_53 bd7 (by decide)) (own_53 hx2 (by decide))
  have bd10 := own_badd bd7 hx2 (by decide)
  obtain ⟨cl11, A11, S11, Nl11, M11⟩ := id V_a1
  have hin11 : ¬ ((3 : Int32) < 0 ∨ cl11.slots.size ≤ ((3 : Int32)).toNatClampNeg) := AV.inb S11 Nl11 ⟨by decide, by decide⟩
  have hat11 : cl11.slots[((3 : Int32)).toNatClampNeg]? = some (.double (FP.l2d x3)) := AV.at S11 rfl
  have ea12 := dadd_w (own_53 bd10 (by decide)) (own_53 hx3 (by decide))
  have bd13 := own_badd bd10 hx3 (by decide)
  obtain ⟨cl14, A14, S14, Nl14, M14⟩ := id V_a1
  obtain ⟨fs, hr, hrun, hended, hW, hsame⟩ := X0.leave (v := some (.double (FP.ddiv (FP.l2d (((((0 : Int64) + x0) + x1) + x2) + x3)) (FP.l2d (4 : Int64))))) (fun h => by rw [Bd.returns] at h; cases h)
  refine ⟨_, _, pre0 _ ?_, hrun, hended, _, _, rfl, ?_, ⟨_, rfl⟩, hW, hsame.mono (by decide) (by decide)⟩
  · show Steps p.tables e below (s₁.setTop (mkF m 0 #[.val (.ref a1), .unset, .unset, .unset, .unset, .unset, .unset, .unset] [])) _
    refine XS.dconst0 X0.here hx rfl (v := (FP.l2d (0 : Int64))) (hb hby d1_0) own_d0 ?_
    show Steps p.tables e below (s₁.setTop (mkF m 1 #[.val (.ref a1), .unset, .unset, .unset, .unset, .unset, .unset, .unset] [(.double (FP.l2d (0 : Int64)))])) _
    refine XS.dstoreN X0.here hx rfl (hb hby d1_1) rfl (l' := #[.val (.ref a1), .val (.double (FP.l2d (0 : Int64))), .second, .unset, .unset, .unset, .unset, .unset]) rfl ?_
    show Steps p.tables e below (s₁.setTop (mkF m 2 #[.val (.ref a1), .val (.double (FP.l2d (0 : Int64))), .second, .unset, .unset, .unset, .unset, .unset] [])) _
    refine XS.aloadN X0.here hx rfl (hb hby d1_2) rfl rfl ?_
    show Steps p.tables e below (s₁.setTop (mkF m 3 #[.val (.ref a1), .val (.double (FP.l2d (0 : Int64))), .second, .unset, .unset, .unset, .unset, .unset] [(.ref a1)])) _
    refine XS.astoreN X0.here hx rfl (hb hby d1_3) rfl rfl (l' := #[.val (.ref a1), .val (.double (FP.l2d (0 : Int64))), .second, .val (.ref a1), .unset, .unset, .unset, .unset]) rfl ?_
    show Steps p.tables e below (s₁.setTop (mkF m 4 #[.val (.ref a1), .val (.double (FP.l2d (0 : Int64))), .second, .val (.ref a1), .unset, .unset, .unset, .unset] [])) _
    refine XS.aloadN X0.here hx rfl (hb hby d1_4) rfl rfl ?_
    show Steps p.tables e below (s₁.setTop (mkF m 5 #[.val (.ref a1), .val (.double (FP.l2d (0 : Int64))), .second, .val (.ref a1), .unset, .unset, .unset, .unset] [(.ref a1)])) _
    refine X0.arraylength hx (by rw [e0]; exact A1.1) (State.isArrayOf_alike hZ.alike A1.2.1) (g := (mkF m 5 #[.val (.ref a1), .val (.double (FP.l2d (0 : Int64))), .second, .val (.ref a1), .unset, .unset, .unset, .unset] [(.ref a1)])) rfl rfl (hb hby d1_5) _ ?_
    rw [AV.len S1 Nl1 M1]
    show Steps p.tables e below (s₁.setTop (mkF m 6 #[.val (.ref a1), .val (.double (FP.l2d (0 : Int64))), .second, .val (.ref a1), .unset, .unset, .unset, .unset] [(.int (4 : Int32))])) _
    refine XS.istore X0.here hx rfl (hb hby d1_6) rfl (l' := #[.val (.ref a1), .val (.double (FP.l2d (0 : Int64))), .second, .val (.ref a1), .val (.int (4 : Int32)), .unset, .unset, .unset]) rfl ?_
    show Steps p.tables e below (s₁.setTop (mkF m 8 #[.val (.ref a1), .val (.double (FP.l2d (0 : Int64))), .second, .val (.ref a1), .val (.int (4 : Int32)), .unset, .unset, .unset] [])) _
    refine XS.iconst X0.here hx rfl (hb hby d1_8) ?_
    show Steps p.tables e below (s₁.setTop (mkF m 9 #[.val (.ref a1), .val (.double (FP.l2d (0 : Int64))), .second, .val (.ref a1), .val (.int (4 : Int32)), .unset, .unset, .unset] [(.int (0 : Int32))])) _
    refine XS.istore X0.here hx rfl (hb hby d1_9) rfl (l' := #[.val (.ref a1), .val (.double (FP.l2d (0 : Int64))), .second, .val (.ref a1), .val (.int (4 : Int32)), .val (.int (0 : Int32)), .unset, .unset]) rfl ?_
    show Steps p.tables e below (s₁.setTop (mkF m 11 #[.val (.ref a1), .val (.double (FP.l2d (0 : Int64))), .second, .val (.ref a1), .val (.int (4 : Int32)), .val (.int (0 : Int32)), .unset, .unset] [])) _
    refine XS.iload X0.here hx rfl (hb hby d1_11) rfl ?_
    show Steps p.tables e below (s₁.setTop (mkF m 13 #[.val (.ref a1), .val (.double (FP.l2d (0 : Int64))), .second, .val (.ref a1), .val (.int (4 : Int32)), .val (.int (0 : Int32)), .unset, .unset] [(.int (0 : Int32))])) _
    refine XS.iload X0.here hx rfl (hb hby d1_13) rfl ?_
    show Steps p.tables e below (s₁.setTop (mkF m 15 #[.val (.ref a1), .val (.double (FP.l2d (0 : Int64))), .second, .val (.ref a1), .val (.int (4 : Int32)), .val (.int (0 : Int32)), .unset, .unset] [(.int (4 : Int32)), (.int (0 : Int32))])) _
    refine XS.icmpNo X0.here hx rfl (hb hby d1_15) rfl (tlt (by decide : (0 : Int32) < (4 : Int32))).2.1 ?_
    show Steps p.tables e below (s₁.setTop (mkF m 18 #[.val (.ref a1), .val (.double (FP.l2d (0 : Int64))), .second, .val (.ref a1), .val (.int (4 : Int32)), .val (.int (0 : Int32)), .unset, .unset] [])) _
    refine XS.aloadN X0.here hx rfl (hb hby d1_18) rfl rfl ?_
    show Steps p.tables e below (s₁.setTop (mkF m 19 #[.val (.ref a1), .val (.double (FP.l2d (0 : Int64))), .second, .val (.ref a1), .val (.int (4 : Int32)), .val (.int (0 : Int32)), .unset, .unset] [(.ref a1)])) _
    refine XS.iload X0.here hx rfl (hb hby d1_19) rfl ?_
    show Steps p.tables e below (s₁.setTop (mkF m 21 #[.val (.ref a1), .val (.double (FP.l2d (0 : Int64))), .second, .val (.ref a1), .val (.int (4 : Int32)), .val (.int (0 : Int32)), .unset, .unset] [(.int (0 : Int32)), (.ref a1)])) _
    refine X0.daload hx (j := (0 : Int32)) (v := (.double (FP.l2d x0))) (by rw [e0]; exact A2.1) (State.isArrayOf_alike hZ.alike A2.2.1) A2.2.2 hin2 hat2 (g := (mkF m 21 #[.val (.ref a1), .val (.double (FP.l2d (0 : Int64))), .second, .val (.ref a1), .val (.int (4 : Int32)), .val (.int (0 : Int32)), .unset, .unset] [(.int (0 : Int32)), (.ref a1)])) rfl rfl (hb hby d1_21) _ ?_
    show Steps p.tables e below (s₁.setTop (mkF m 22 #[.val (.ref a1), .val (.double (FP.l2d (0 : Int64))), .second, .val (.ref a1), .val (.int (4 : Int32)), .val (.int (0 : Int32)), .unset, .unset] [(.double (FP.l2d x0))])) _
    refine XS.dstore X0.here hx rfl (hb hby d1_22) rfl (l' := #[.val (.ref a1), .val (.double (FP.l2d (0 : Int64))), .second, .val (.ref a1), .val (.int (4 : Int32)), .val (.int (0 : Int32)), .val (.double (FP.l2d x0)), .second]) rfl ?_
    show Steps p.tables e below (s₁.setTop (mkF m 24 #[.val (.ref a1), .val (.double (FP.l2d (0 : Int64))), .second, .val (.ref a1), .val (.int (4 : Int32)), .val (.int (0 : Int32)), .val (.double (FP.l2d x0)), .second] [])) _
    refine XS.dloadN X0.here hx rfl (hb hby d1_24) rfl ?_
    show Steps p.tables e below (s₁.setTop (mkF m 25 #[.val (.ref a1), .val (.double (FP.l2d (0 : Int64))), .second, .val (.ref a1), .val (.int (4 : Int32)), .val (.int (0 : Int32)), .val (.double (FP.l2d x0)), .second] [(.double (FP.l2d (0 : Int64)))])) _
    refine XS.dload X0.here hx rfl (hb hby d1_25) rfl ?_
    show Steps p.tables e below (s₁.setTop (mkF m 27 #[.val (.ref a1), .val (.double (FP.l2d (0 : Int64))), .second, .val (.ref a1), .val (.int (4 : Int32)), .val (.int (0 : Int32)), .val (.double (FP.l2d x0)), .second] [(.double (FP.l2d x0)), (.double (FP.l2d (0 : Int64)))])) _
    refine XS.daddS X0.here hx rfl (v := (FP.l2d ((0 : Int64) + x0))) (hb hby d1_27) rfl (nn_w ea3) ea3 ?_
    show Steps p.tables e below (s₁.setTop (mkF m 28 #[.val (.ref a1), .val (.double (FP.l2d (0 : Int64))), .second, .val (.ref a1), .val (.int (4 : Int32)), .val (.int (0 : Int32)), .val (.double (FP.l2d x0)), .second] [(.double (FP.l2d ((0 : Int64) + x0)))])) _
    refine XS.dstoreN X0.here hx rfl (hb hby d1_28) rfl (l' := #[.val (.ref a1), .val (.double (FP.l2d ((0 : Int64) + x0))), .second, .val (.ref a1), .val (.int (4 : Int32)), .val (.int (0 : Int32)), .val (.double (FP.l2d x0)), .second]) rfl ?_
    show Steps p.tables e below (s₁.setTop (mkF m 29 #[.val (.ref a1), .val (.double (FP.l2d ((0 : Int64) + x0))), .second, .val (.ref a1), .val (.int (4 : Int32)), .val (.int (0 : Int32)), .val (.double (FP.l2d x0)), .second] [])) _
    refine XS.iinc X0.here hx rfl (hb hby d1_29) rfl (l' := #[.val (.ref a1), .val (.double (FP.l2d ((0 : Int64) + x0))), .second, .val (.ref a1), .val (.int (4 : Int32)), .val (.int (1 : Int32)), .val (.double (FP.l2d x0)), .second]) rfl ?_
    show Steps p.tables e below (s₁.setTop (mkF m 32 #[.val (.ref a1), .val (.double (FP.l2d ((0 : Int64) + x0))), .second, .val (.ref a1), .val (.int (4 : Int32)), .val (.int (1 : Int32)), .val (.double (FP.l2d x0)), .second] [])) _
    refine XS.goto X0.here hx rfl (pc0 := 32) (pc' := 11) rfl (hb hby d1_32) (by decide) (by decide) ?_
    show Steps p.tables e below (s₁.setTop (mkF m 11 #[.val (.ref a1), .val (.double (FP.l2d ((0 : Int64) + x0))), .second, .val (.ref a1), .val (.int (4 : Int32)), .val (.int (1 : Int32)), .val (.double (FP.l2d x0)), .second] [])) _
    refine XS.iload X0.here hx rfl (hb hby d1_11) rfl ?_
    show Steps p.tables e below (s₁.setTop (mkF m 13 #[.val (.ref a1), .val (.double (FP.l2d ((0 : Int64) + x0))), .second, .val (.ref a1), .val (.int (4 : Int32)), .val (.int (1 : Int32)), .val (.double (FP.l2d x0)), .second] [(.int (1 : Int32))])) _
    refine XS.iload X0.here hx rfl (hb hby d1_13) rfl ?_
    show Steps p.tables e below (s₁.setTop (mkF m 15 #[.val (.ref a1), .val (.double (FP.l2d ((0 : Int64) + x0))), .second, .val (.ref a1), .val (.int (4 : Int32)), .val (.int (1 : Int32)), .val (.double (FP.l2d x0)), .second] [(.int (4 : Int32)), (.int (1 : Int32))])) _
    refine XS.icmpNo X0.here hx rfl (hb hby d1_15) rfl (tlt (by decide : (1 : Int32) < (4 : Int32))).2.1 ?_
    show Steps p.tables e below (s₁.setTop (mkF m 18 #[.val (.ref a1), .val (.double (FP.l2d ((0 : Int64) + x0))), .second, .val (.ref a1), .val (.int (4 : Int32)), .val (.int (1 : Int32)), .val (.double (FP.l2d x0)), .second] [])) _
    refine XS.aloadN X0.here hx rfl (hb hby d1_18) rfl rfl ?_
    show Steps p.tables e below (s₁.setTop (mkF m 19 #[.val (.ref a1), .val (.double (FP.l2d ((0 : Int64) + x0))), .second, .val (.ref a1), .val (.int (4 : Int32)), .val (.int (1 : Int32)), .val (.double (FP.l2d x0)), .second] [(.ref a1)])) _
    refine XS.iload X0.here hx rfl (hb hby d1_19) rfl ?_
    show Steps p.tables e below (s₁.setTop (mkF m 21 #[.val (.ref a1), .val (.double (FP.l2d ((0 : Int64) + x0))), .second, .val (.ref a1), .val (.int (4 : Int32)), .val (.int (1 : Int32)), .val (.double (FP.l2d x0)), .second] [(.int (1 : Int32)), (.ref a1)])) _
    refine X0.daload hx (j := (1 : Int32)) (v := (.double (FP.l2d x1))) (by rw [e0]; exact A5.1) (State.isArrayOf_alike hZ.alike A5.2.1) A5.2.2 hin5 hat5 (g := (mkF m 21 #[.val (.ref a1), .val (.double (FP.l2d ((0 : Int64) + x0))), .second, .val (.ref a1), .val (.int (4 : Int32)), .val (.int (1 : Int32)), .val (.double (FP.l2d x0)), .second] [(.int (1 : Int32)), (.ref a1)])) rfl rfl (hb hby d1_21) _ ?_
    show Steps p.tables e below (s₁.setTop (mkF m 22 #[.val (.ref a1), .val (.double (FP.l2d ((0 : Int64) + x0))), .second, .val (.ref a1), .val (.int (4 : Int32)), .val (.int (1 : Int32)), .val (.double (FP.l2d x0)), .second] [(.double (FP.l2d x1))])) _
    refine XS.dstore X0.here hx rfl (hb hby d1_22) rfl (l' := #[.val (.ref a1), .val (.double (FP.l2d ((0 : Int64) + x0))), .second, .val (.ref a1), .val (.int (4 : Int32)), .val (.int (1 : Int32)), .val (.double (FP.l2d x1)), .second]) rfl ?_
    show Steps p.tables e below (s₁.setTop (mkF m 24 #[.val (.ref a1), .val (.double (FP.l2d ((0 : Int64) + x0))), .second, .val (.ref a1), .val (.int (4 : Int32)), .val (.int (1 : Int32)), .val (.double (FP.l2d x1)), .second] [])) _
    refine XS.dloadN X0.here hx rfl (hb hby d1_24) rfl ?_
    show Steps p.tables e below (s₁.setTop (mkF m 25 #[.val (.ref a1), .val (.double (FP.l2d ((0 : Int64) + x0))), .second, .val (.ref a1), .val (.int (4 : Int32)), .val (.int (1 : Int32)), .val (.double (FP.l2d x1)), .second] [(.double (FP.l2d ((0 : Int64) + x0)))])) _
    refine XS.dload X0.here hx rfl (hb hby d1_25) rfl ?_
    show Steps p.tables e below (s₁.setTop (mkF m 27 #[.val (.ref a1), .val (.double (FP.l2d ((0 : Int64) + x0))), .second, .val (.ref a1), .val (.int (4 : Int32)), .val (.int (1 : Int32)), .val (.double (FP.l2d x1)), .second] [(.double (FP.l2d x1)), (.double (FP.l2d ((0 : Int64) + x0)))])) _
    refine XS.daddS X0.here hx rfl (v := (FP.l2d (((0 : Int64) + x0) + x1))) (hb hby d1_27) rfl (nn_w ea6) ea6 ?_
    show Steps p.tables e below (s₁.setTop (mkF m 28 #[.val (.ref a1), .val (.double (FP.l2d ((0 : Int64) + x0))), .second, .val (.ref a1), .val (.int (4 : Int32)), .val (.int (1 : Int32)), .val (.double (FP.l2d x1)), .second] [(.double (FP.l2d (((0 : Int64) + x0) + x1)))])) _
    refine XS.dstoreN X0.here hx rfl (hb hby d1_28) rfl (l' := #[.val (.ref a1), .val (.double (FP.l2d (((0 : Int64) + x0) + x1))), .second, .val (.ref a1), .val (.int (4 : Int32)), .val (.int (1 : Int32)), .val (.double (FP.l2d x1)), .second]) rfl ?_
    show Steps p.tables e below (s₁.setTop (mkF m 29 #[.val (.ref a1), .val (.double (FP.l2d (((0 : Int64) + x0) + x1))), .second, .val (.ref a1), .val (.int (4 : Int32)), .val (.int (1 : Int32)), .val (.double (FP.l2d x1)), .second] [])) _
    refine XS.iinc X0.here hx rfl (hb hby d1_29) rfl (l' := #[.val (.ref a1), .val (.double (FP.l2d (((0 : Int64) + x0) + x1))), .second, .val (.ref a1), .val (.int (4 : Int32)), .val (.int (2 : Int32)), .val (.double (FP.l2d x1)), .second]) rfl ?_
    show Steps p.tables e below (s₁.setTop (mkF m 32 #[.val (.ref a1), .val (.double (FP.l2d (((0 : Int64) + x0) + x1))), .second, .val (.ref a1), .val (.int (4 : Int32)), .val (.int (2 : Int32)), .val (.double (FP.l2d x1)), .second] [])) _
    refine XS.goto X0.here hx rfl (pc0 := 32) (pc' := 11) rfl (hb hby d1_32) (by decide) (by decide) ?_
    show Steps p.tables e below (s₁.setTop (mkF m 11 #[.val (.ref a1), .val (.double (FP.l2d (((0 : Int64) + x0) + x1))), .second, .val (.ref a1), .val (.int (4 : Int32)), .val (.int (2 : Int32)), .val (.double (FP.l2d x1)), .second] [])) _
    refine XS.iload X0.here hx rfl (hb hby d1_11) rfl ?_
    show Steps p.tables e below (s₁.setTop (mkF m 13 #[.val (.ref a1), .val (.double (FP.l2d (((0 : Int64) + x0) + x1))), .second, .val (.ref a1), .val (.int (4 : Int32)), .val (.int (2 : Int32)), .val (.double (FP.l2d x1)), .second] [(.int (2 : Int32))])) _
    refine XS.iload X0.here hx rfl (hb hby d1_13) rfl ?_
    show Steps p.tables e below (s₁.setTop (mkF m 15 #[.val (.ref a1), .val (.double (FP.l2d (((0 : Int64) + x0) + x1))), .second, .val (.ref a1), .val (.int (4 : Int32)), .val (.int (2 : Int32)), .val (.double (FP.l2d x1)), .second] [(.int (4 : Int32)), (.int (2 : Int32))])) _
    refine XS.icmpNo X0.here hx rfl (hb hby d1_15) rfl (tlt (by decide : (2 : Int32) < (4 : Int32))).2.1 ?_
    show Steps p.tables e below (s₁.setTop (mkF m 18 #[.val (.ref a1), .val (.double (FP.l2d (((0 : Int64) + x0) + x1))), .second, .val (.ref a1), .val (.int (4 : Int32)), .val (.int (2 : Int32)), .val (.double (FP.l2d x1)), .second] [])) _
    refine XS.aloadN X0.here hx rfl (hb hby d1_18) rfl rfl ?_
    show Steps p.tables e below (s₁.setTop (mkF m 19 #[.val (.ref a1), .val (.double (FP.l2d (((0 : Int64) + x0) + x1))), .second, .val (.ref a1), .val (.int (4 : Int32)), .val (.int (2 : Int32)), .val (.double (FP.l2d x1)), .second] [(.ref a1)])) _
    refine XS.iload X0.here hx rfl (hb hby d1_19) rfl ?_
    show Steps p.tables e below (s₁.setTop (mkF m 21 #[.val (.ref a1), .val (.double (FP.l2d (((0 : Int64) + x0) + x1))), .second, .val (.ref a1), .val (.int (4 : Int32)), .val (.int (2 : Int32)), .val (.double (FP.l2d x1)), .second] [(.int (2 : Int32)), (.ref a1)])) _
    refine X0.daload hx (j := (2 : Int32)) (v := (.double (FP.l2d x2))) (by rw [e0]; exact A8.1) (State.isArrayOf_alike hZ.alike A8.2.1) A8.2.2 hin8 hat8 (g := (mkF m 21 #[.val (.ref a1), .val (.double (FP.l2d (((0 : Int64) + x0) + x1))), .second, .val (.ref a1), .val (.int (4 : Int32)), .val (.int (2 : Int32)), .val (.double (FP.l2d x1)), .second] [(.int (2 : Int32)), (.ref a1)])) rfl rfl (hb hby d1_21) _ ?_
    show Steps p.tables e below (s₁.setTop (mkF m 22 #[.val (.ref a1), .val (.double (FP.l2d (((0 : Int64) + x0) + x1))), .second, .val (.ref a1), .val (.int (4 : Int32)), .val (.int (2 : Int32)), .val (.double (FP.l2d x1)), .second] [(.double (FP.l2d x2))])) _
    refine XS.dstore X0.here hx rfl (hb hby d1_22) rfl (l' := #[.val (.ref a1), .val (.double (FP.l2d (((0 : Int64) + x0) + x1))), .second, .val (.ref a1), .val (.int (4 : Int32)), .val (.int (2 : Int32)), .val (.double (FP.l2d x2)), .second]) rfl ?_
    show Steps p.tables e below (s₁.setTop (mkF m 24 #[.val (.ref a1), .val (.double (FP.l2d (((0 : Int64) + x0) + x1))), .second, .val (.ref a1), .val (.int (4 : Int32)), .val (.int (2 : Int32)), .val (.double (FP.l2d x2)), .second] [])) _
    refine XS.dloadN X0.here hx rfl (hb hby d1_24) rfl ?_
    show Steps p.tables e below (s₁.setTop (mkF m 25 #[.val (.ref a1), .val (.double (FP.l2d (((0 : Int64) + x0) + x1))), .second, .val (.ref a1), .val (.int (4 : Int32)), .val (.int (2 : Int32)), .val (.double (FP.l2d x2)), .second] [(.double (FP.l2d (((0 : Int64) + x0) + x1)))])) _
    refine XS.dload X0.here hx rfl (hb hby d1_25) rfl ?_
    show Steps p.tables e below (s₁.setTop (mkF m 27 #[.val (.ref a1), .val (.double (FP.l2d (((0 : Int64) + x0) + x1))), .second, .val (.ref a1), .val (.int (4 : Int32)), .val (.int (2 : Int32)), .val (.double (FP.l2d x2)), .second] [(.double (FP.l2d x2)), (.double (FP.l2d (((0 : Int64) + x0) + x1)))])) _
    refine XS.daddS X0.here hx rfl (v := (FP.l2d ((((0 : Int64) + x0) + x1) + x2))) (hb hby d1_27) rfl (nn_w ea9) ea9 ?_
    show Steps p.tables e below (s₁.setTop (mkF m 28 #[.val (.ref a1), .val (.double (FP.l2d (((0 : Int64) + x0) + x1))), .second, .val (.ref a1), .val (.int (4 : Int32)), .val (.int (2 : Int32)), .val (.double (FP.l2d x2)), .second] [(.double (FP.l2d ((((0 : Int64) + x0) + x1) + x2)))])) _
    refine XS.dstoreN X0.here hx rfl (hb hby d1_28) rfl (l' := #[.val (.ref a1), .val (.double (FP.l2d ((((0 : Int64) + x0) + x1) + x2))), .second, .val (.ref a1), .val (.int (4 : Int32)), .val (.int (2 : Int32)), .val (.double (FP.l2d x2)), .second]) rfl ?_
    show Steps p.tables e below (s₁.setTop (mkF m 29 #[.val (.ref a1), .val (.double (FP.l2d ((((0 : Int64) + x0) + x1) + x2))), .second, .val (.ref a1), .val (.int (4 : Int32)), .val (.int (2 : Int32)), .val (.double (FP.l2d x2)), .second] [])) _
    refine XS.iinc X0.here hx rfl (hb hby d1_29) rfl (l' := #[.val (.ref a1), .val (.double (FP.l2d ((((0 : Int64) + x0) + x1) + x2))), .second, .val (.ref a1), .val (.int (4 : Int32)), .val (.int (3 : Int32)), .val (.double (FP.l2d x2)), .second]) rfl ?_
    show Steps p.tables e below (s₁.setTop (mkF m 32 #[.val (.ref a1), .val (.double (FP.l2d ((((0 : Int64) + x0) + x1) + x2))), .second, .val (.ref a1), .val (.int (4 : Int32)), .val (.int (3 : Int32)), .val (.double (FP.l2d x2)), .second] [])) _
    refine XS.goto X0.here hx rfl (pc0 := 32) (pc' := 11) rfl (hb hby d1_32) (by decide) (by decide) ?_
    show Steps p.tables e below (s₁.setTop (mkF m 11 #[.val (.ref a1), .val (.double (FP.l2d ((((0 : Int64) + x0) + x1) + x2))), .second, .val (.ref a1), .val (.int (4 : Int32)), .val (.int (3 : Int32)), .val (.double (FP.l2d x2)), .second] [])) _
    refine XS.iload X0.here hx rfl (hb hby d1_11) rfl ?_
    show Steps p.tables e below (s₁.setTop (mkF m 13 #[.val (.ref a1), .val (.double (FP.l2d ((((0 : Int64) + x0) + x1) + x2))), .second, .val (.ref a1), .val (.int (4 : Int32)), .val (.int (3 : Int32)), .val (.double (FP.l2d x2)), .second] [(.int (3 : Int32))])) _
    refine XS.iload X0.here hx rfl (hb hby d1_13) rfl ?_
    show Steps p.tables e below (s₁.setTop (mkF m 15 #[.val (.ref a1), .val (.double (FP.l2d ((((0 : Int64) + x0) + x1) + x2))), .second, .val (.ref a1), .val (.int (4 : Int32)), .val (.int (3 : Int32)), .val (.double (FP.l2d x2)), .second] [(.int (4 : Int32)), (.int (3 : Int32))])) _
    refine XS.icmpNo X0.here hx rfl (hb hby d1_15) rfl (tlt (by decide : (3 : Int32) < (4 : Int32))).2.1 ?_
    show Steps p.tables e below (s₁.setTop (mkF m 18 #[.val (.ref a1), .val (.double (FP.l2d ((((0 : Int64) + x0) + x1) + x2))), .second, .val (.ref a1), .val (.int (4 : Int32)), .val (.int (3 : Int32)), .val (.double (FP.l2d x2)), .second] [])) _
    refine XS.aloadN X0.here hx rfl (hb hby d1_18) rfl rfl ?_
    show Steps p.tables e below (s₁.setTop (mkF m 19 #[.val (.ref a1), .val (.double (FP.l2d ((((0 : Int64) + x0) + x1) + x2))), .second, .val (.ref a1), .val (.int (4 : Int32)), .val (.int (3 : Int32)), .val (.double (FP.l2d x2)), .second] [(.ref a1)])) _
    refine XS.iload X0.here hx rfl (hb hby d1_19) rfl ?_
    show Steps p.tables e below (s₁.setTop (mkF m 21 #[.val (.ref a1), .val (.double (FP.l2d ((((0 : Int64) + x0) + x1) + x2))), .second, .val (.ref a1), .val (.int (4 : Int32)), .val (.int (3 : Int32)), .val (.double (FP.l2d x2)), .second] [(.int (3 : Int32)), (.ref a1)])) _
    refine X0.daload hx (j := (3 : Int32)) (v := (.double (FP.l2d x3))) (by rw [e0]; exact A11.1) (State.isArrayOf_alike hZ.alike A11.2.1) A11.2.2 hin11 hat11 (g := (mkF m 21 #[.val (.ref a1), .val (.double (FP.l2d ((((0 : Int64) + x0) + x1) + x2))), .second, .val (.ref a1), .val (.int (4 : Int32)), .val (.int (3 : Int32)), .val (.double (FP.l2d x2)), .second] [(.int (3 : Int32)), (.ref a1)])) rfl rfl (hb hby d1_21) _ ?_
    show Steps p.tables e below (s₁.setTop (mkF m 22 #[.val (.ref a1), .val (.double (FP.l2d ((((0 : Int64) + x0) + x1) + x2))), .second, .val (.ref a1), .val (.int (4 : Int32)), .val (.int (3 : Int32)), .val (.double (FP.l2d x2)), .second] [(.double (FP.l2d x3))])) _
    refine XS.dstore X0.here hx rfl (hb hby d1_22) rfl (l' := #[.val (.ref a1), .val (.double (FP.l2d ((((0 : Int64) + x0) + x1) + x2))), .second, .val (.ref a1), .val (.int (4 : Int32)), .val (.int (3 : Int32)), .val (.double (FP.l2d x3)), .second]) rfl ?_
    show Steps p.tables e below (s₁.setTop (mkF m 24 #[.val (.ref a1), .val (.double (FP.l2d ((((0 : Int64) + x0) + x1) + x2))), .second, .val (.ref a1), .val (.int (4 : Int32)), .val (.int (3 : Int32)), .val (.double (FP.l2d x3)), .second] [])) _
    refine XS.dloadN X0.here hx rfl (hb hby d1_24) rfl ?_
    show Steps p.tables e below (s₁.setTop (mkF m 25 #[.val (.ref a1), .val (.double (FP.l2d ((((0 : Int64) + x0) + x1) + x2))), .second, .val (.ref a1), .val (.int (4 : Int32)), .val (.int (3 : Int32)), .val (.double (FP.l2d x3)), .second] [(.double (FP.l2d ((((0 : Int64) + x0) + x1) + x2)))])) _
    refine XS.dload X0.here hx rfl (hb hby d1_25) rfl ?_
    show Steps p.tables e below (s₁.setTop (mkF m 27 #[.val (.ref a1), .val (.double (FP.l2d ((((0 : Int64) + x0) + x1) + x2))), .second, .val (.ref a1), .val (.int (4 : Int32)), .val (.int (3 : Int32)), .val (.double (FP.l2d x3)), .second] [(.double (FP.l2d x3)), (.double (FP.l2d ((((0 : Int64) + x0) + x1) + x2)))])) _
    refine XS.daddS X0.here hx rfl (v := (FP.l2d (((((0 : Int64) + x0) + x1) + x2) + x3))) (hb hby d1_27) rfl (nn_w ea12) ea12 ?_
    show Steps p.tables e below (s₁.setTop (mkF m 28 #[.val (.ref a1), .val (.double (FP.l2d ((((0 : Int64) + x0) + x1) + x2))), .second, .val (.ref a1), .val (.int (4 : Int32)), .val (.int (3 : Int32)), .val (.double (FP.l2d x3)), .second] [(.double (FP.l2d (((((0 : Int64) + x0) + x1) + x2) + x3)))])) _
    refine XS.dstoreN X0.here hx rfl (hb hby d1_28) rfl (l' := #[.val (.ref a1), .val (.double (FP.l2d (((((0 : Int64) + x0) + x1) + x2) + x3))), .second, .val (.ref a1), .val (.int (4 : Int32)), .val (.int (3 : Int32)), .val (.double (FP.l2d x3)), .second]) rfl ?_
    show Steps p.tables e below (s₁.setTop (mkF m 29 #[.val (.ref a1), .val (.double (FP.l2d (((((0 : Int64) + x0) + x1) + x2) + x3))), .second, .val (.ref a1), .val (.int (4 : Int32)), .val (.int (3 : Int32)), .val (.double (FP.l2d x3)), .second] [])) _
    refine XS.iinc X0.here hx rfl (hb hby d1_29) rfl (l' := #[.val (.ref a1), .val (.double (FP.l2d (((((0 : Int64) + x0) + x1) + x2) + x3))), .second, .val (.ref a1), .val (.int (4 : Int32)), .val (.int (4 : Int32)), .val (.double (FP.l2d x3)), .second]) rfl ?_
    show Steps p.tables e below (s₁.setTop (mkF m 32 #[.val (.ref a1), .val (.double (FP.l2d (((((0 : Int64) + x0) + x1) + x2) + x3))), .second, .val (.ref a1), .val (.int (4 : Int32)), .val (.int (4 : Int32)), .val (.double (FP.l2d x3)), .second] [])) _
    refine XS.goto X0.here hx rfl (pc0 := 32) (pc' := 11) rfl (hb hby d1_32) (by decide) (by decide) ?_
    show Steps p.tables e below (s₁.setTop (mkF m 11 #[.val (.ref a1), .val (.double (FP.l2d (((((0 : Int64) + x0) + x1) + x2) + x3))), .second, .val (.ref a1), .val (.int (4 : Int32)), .val (.int (4 : Int32)), .val (.double (FP.l2d x3)), .second] [])) _
    refine XS.iload X0.here hx rfl (hb hby d1_11) rfl ?_
    show Steps p.tables e below (s₁.setTop (mkF m 13 #[.val (.ref a1), .val (.double (FP.l2d (((((0 : Int64) + x0) + x1) + x2) + x3))), .second, .val (.ref a1), .val (.int (4 : Int32)), .val (.int (4 : Int32)), .val (.double (FP.l2d x3)), .second] [(.int (4 : Int32))])) _
    refine XS.iload X0.here hx rfl (hb hby d1_13) rfl ?_
    show Steps p.tables e below (s₁.setTop (mkF m 15 #[.val (.ref a1), .val (.double (FP.l2d (((((0 : Int64) + x0) + x1) + x2) + x3))), .second, .val (.ref a1), .val (.int (4 : Int32)), .val (.int (4 : Int32)), .val (.double (FP.l2d x3)), .second] [(.int (4 : Int32)), (.int (4 : Int32))])) _
    refine XS.icmpYes X0.here hx rfl (pc0 := 15) (pc' := 35) rfl (hb hby d1_15) rfl (flt (by decide : ¬ ((4 : Int32) < (4 : Int32)))).2.1 (by decide) (by decide) ?_
    show Steps p.tables e below (s₁.setTop (mkF m 35 #[.val (.ref a1), .val (.double (FP.l2d (((((0 : Int64) + x0) + x1) + x2) + x3))), .second, .val (.ref a1), .val (.int (4 : Int32)), .val (.int (4 : Int32)), .val (.double (FP.l2d x3)), .second] [])) _
    refine XS.dloadN X0.here hx rfl (hb hby d1_35) rfl ?_
    show Steps p.tables e below (s₁.setTop (mkF m 36 #[.val (.ref a1), .val (.double (FP.l2d (((((0 : Int64) + x0) + x1) + x2) + x3))), .second, .val (.ref a1), .val (.int (4 : Int32)), .val (.int (4 : Int32)), .val (.double (FP.l2d x3)), .second] [(.double (FP.l2d (((((0 : Int64) + x0) + x1) + x2) + x3)))])) _
    refine XS.aloadN X0.here hx rfl (hb hby d1_36) rfl rfl ?_
    show Steps p.tables e below (s₁.setTop (mkF m 37 #[.val (.ref a1), .val (.double (FP.l2d (((((0 : Int64) + x0) + x1) + x2) + x3))), .second, .val (.ref a1), .val (.int (4 : Int32)), .val (.int (4 : Int32)), .val (.double (FP.l2d x3)), .second] [(.ref a1), (.double (FP.l2d (((((0 : Int64) + x0) + x1) + x2) + x3)))])) _
    refine X0.arraylength hx (by rw [e0]; exact A14.1) (State.isArrayOf_alike hZ.alike A14.2.1) (g := (mkF m 37 #[.val (.ref a1), .val (.double (FP.l2d (((((0 : Int64) + x0) + x1) + x2) + x3))), .second, .val (.ref a1), .val (.int (4 : Int32)), .val (.int (4 : Int32)), .val (.double (FP.l2d x3)), .second] [(.ref a1), (.double (FP.l2d (((((0 : Int64) + x0) + x1) + x2) + x3)))])) rfl rfl (hb hby d1_37) _ ?_
    rw [AV.len S14 Nl14 M14]
    show Steps p.tables e below (s₁.setTop (mkF m 38 #[.val (.ref a1), .val (.double (FP.l2d (((((0 : Int64) + x0) + x1) + x2) + x3))), .second, .val (.ref a1), .val (.int (4 : Int32)), .val (.int (4 : Int32)), .val (.double (FP.l2d x3)), .second] [(.int (4 : Int32)), (.double (FP.l2d (((((0 : Int64) + x0) + x1) + x2) + x3)))])) _
    refine XS.i2dS X0.here hx rfl (v := (FP.l2d (4 : Int64))) (hb hby d1_38) rfl (i2d_w _) ?_
    show Steps p.tables e below (s₁.setTop (mkF m 39 #[.val (.ref a1), .val (.double (FP.l2d (((((0 : Int64) + x0) + x1) + x2) + x3))), .second, .val (.ref a1), .val (.int (4 : Int32)), .val (.int (4 : Int32)), .val (.double (FP.l2d x3)), .second] [(.double (FP.l2d (4 : Int64))), (.double (FP.l2d (((((0 : Int64) + x0) + x1) + x2) + x3)))])) _
    refine XS.ddivS X0.here hx rfl (v := (FP.ddiv (FP.l2d (((((0 : Int64) + x0) + x1) + x2) + x3)) (FP.l2d (4 : Int64)))) (hb hby d1_39) rfl (own_nn (by decide)) rfl ?_
    show Steps p.tables e below (s₁.setTop (mkF m 40 #[.val (.ref a1), .val (.double (FP.l2d (((((0 : Int64) + x0) + x1) + x2) + x3))), .second, .val (.ref a1), .val (.int (4 : Int32)), .val (.int (4 : Int32)), .val (.double (FP.l2d x3)), .second] [(.double (FP.ddiv (FP.l2d (((((0 : Int64) + x0) + x1) + x2) + x3)) (FP.l2d (4 : Int64))))])) _
    exact retOut X0 hx Bd.returns rfl (Or.inr (Or.inr (Or.inl ⟨rfl, rfl, _, rfl⟩))) (hb hby d1_40) hr
  · show Q1n4 Z a1 x0 x1 x2 x3 h0 n0 _ s₁.heap _
    rw [e0]
    exact ⟨rfl, N0, rfl⟩
theorem pd_0 : parseMethodDescriptor "([D)D" = some ⟨[(.array .double)], some .double⟩ := by decide +kernel
theorem pn_1 : plainName "com/example/byeonhwa/byeonhwa/WelchTestMeanPinLaw" = true := by first | (simp [plainName, overriddenIn]; done) | decide +kernel
theorem ef_0 (m : MethodId) (x0 : Int32) (x1 : Int32) (x2 : Int32) (x3 : Int32) (x4 : Int32) : entryFrame m #[(.int x0), (.int x1), (.int x2), (.int x3), (.int x4)] maxLocals = mkF m 0 #[.val (.int x0), .val (.int x1), .val (.int x2), .val (.int x3), .val (.int x4), .unset, .unset, .unset, .unset, .unset, .unset, .unset, .unset] [] := by first | (simp [entryFrame, mkF, argsToLocals, Value.category, maxLocals]; done) | rfl
def Q0 (Z : State) (p1 : Int32) (p2 : Int32) (p3 : Int32) (p4 : Int32) (p5 : Int32) (h0 : Heap) (n0 : Nat) (v : Option Value) (h : Heap) (L : List Loc) : Prop := v = some (.int (1 : Int32)) ∧ Fr n0 L
set_option maxRecDepth 65536 in
set_option maxHeartbeats 40000000 in
theorem rm0 (l : Launch) (Z : State) (a0 : Array Value) (hw : ∀ d ∈ tables_1, d.before a0 Z = true) (ws : List Jvm.Cond) (p1 : Int32) (p2 : Int32) (p3 : Int32) (p4 : Int32) (p5 : Int32) (h0 : Heap) (n0 : Nat) (Z0 : n0 ≤ h0.size) :
    MetFree l x (head1 (Jvm.Cond.code x code maxLocals ret :: ws) room_1) (fun a U => a = #[(.int p1), (.int p2), (.int p3), (.int p4), (.int p5)] ∧ Z.Warmed39 U.vm ∧ U.heap = h0) (fun _ _ _ _ _ => True) (fun _ U o U' => ∃ v L, o = .returned v ∧ Q0 Z p1 p2 p3 p4 p5 h0 n0 v U'.heap L ∧ FrameEnd U o U' L room_1.cells room_1.slots) := by
  refine MetFree.of_bodySF (plainFor_of_name pn_1) hisR ?_
  intro p e s m args below meth c s₁ Bd hml0 hP hK
  obtain ⟨rfl, hZ, hh⟩ := hP
  have hx := Bd.exec
  have hby := Bd.bytes
  have hml : c.maxLocals = 13 := hml0
  have hown : s.vm.findClass "com/example/byeonhwa/byeonhwa/WelchTestMeanPinLaw" = some m.cls := findClass_of_methodNamed Bd.named
  have hnm := (name_of_methodNamed Bd.named Bd.method).1
  have X0 : Stand p l e room_1 s m #[(.int p1), (.int p2), (.int p3), (.int p4), (.int p5)] below meth c s₁ [] 0 0 := Stand.of_body Bd
  have e0 : s₁.heap = h0 := by rw [← hh, Bd.state]; rfl
  have N0 := Fr.nil n0
  have pre0 : ∀ t, Steps p.tables e below (s₁.setTop (mkF m 0 #[.val (.int p1), .val (.int p2), .val (.int p3), .val (.int p4), .val (.int p5), .unset, .unset, .unset, .unset, .unset, .unset, .unset, .unset] [])) t → Steps p.tables e below (s₁.setTop (entryFrame m #[(.int p1), (.int p2), (.int p3), (.int p4), (.int p5)] maxLocals)) t := fun t k => castTop (ef_0 m p1 p2 p3 p4 p5) k
  have pre1 : ∀ t, Steps p.tables e below (s₁.setTop (mkF m 3 #[.val (.int p1), .val (.int p2), .val (.int p3), .val (.int p4), .val (.int p5), .unset, .unset, .unset, .unset, .unset, .unset, .unset, .unset] [(.int (p1 &&& (3 : Int32)))])) t → Steps p.tables e below (s₁.setTop (entryFrame m #[(.int p1), (.int p2), (.int p3), (.int p4), (.int p5)] maxLocals)) t := fun t k => pre0 t (by
    show Steps p.tables e below (s₁.setTop (mkF m 0 #[.val (.int p1), .val (.int p2), .val (.int p3), .val (.int p4), .val (.int p5), .unset, .unset, .unset, .unset, .unset, .unset, .unset, .unset] [])) _
    refine XS.iloadN X0.here hx rfl (hb hby at_0) rfl ?_
    show Steps p.tables e below (s₁.setTop (mkF m 1 #[.val (.int p1), .val (.int p2), .val (.int p3), .val (.int p4), .val (.int p5), .unset, .unset, .unset, .unset, .unset, .unset, .unset, .unset] [(.int p1)])) _
    refine XS.iconst X0.here hx rfl (hb hby at_1) ?_
    show Steps p.tables e below (s₁.setTop (mkF m 2 #[.val (.int p1), .val (.int p2), .val (.int p3), .val (.int p4), .val (.int p5), .unset, .unset, .unset, .unset, .unset, .unset, .unset, .unset] [(.int (3 : Int32)), (.int p1)])) _
    refine XS.iand X0.here hx rfl (hb hby at_2) rfl ?_
    exact k)
  rcases (own_and3 p1) with hk2 | hk2 | hk2 | hk2
  · have pre3 : ∀ t, Steps p.tables e below (s₁.setTop (mkF m 3 #[.val (.int p1), .val (.int p2), .val (.int p3), .val (.int p4), .val (.int p5), .unset, .unset, .unset, .unset, .unset, .unset, .unset, .unset] [(.int (0 : Int32))])) t → Steps p.tables e below (s₁.setTop (entryFrame m #[(.int p1), (.int p2), (.int p3), (.int p4), (.int p5)] maxLocals)) t := fun t k => pre1 t (by
      show Steps p.tables e below (s₁.setTop (mkF m 3 #[.val (.int p1), .val (.int p2), .val (.int p3), .val (.int p4), .val (.int p5), .unset, .unset, .unset, .unset, .unset, .unset, .unset, .unset] [(.int (p1 &&& (3 : Int32)))])) _
      rw [hk2]
      exact k)
    obtain ⟨T4, h4, k4, X4, e4, E4, A4, st4⟩ := newP X0 hx hZ (hw _ (List.mem_of_getElem? (i := 0) rfl)) e0 (g := (mkF m 9 #[.val (.int p1), .val (.int p2), .val (.int p3), .val (.int p4), .val (.int p5), .val (.int (1 : Int32)), .unset, .unset, .unset, .unset, .unset, .unset, .unset] [(.int (1 : Int32))])) rfl (hb hby at_9) rfl (by decide) (cap := 1) (by decide) (by decide) (by decide) (by decide)
    obtain ⟨b4, g4⟩ : ∃ z, z = h0.size := ⟨_, rfl⟩
    rw [← g4] at A4 st4
    have g_b4 : n0 ≤ b4 := Nat.le_trans Z0 (Nat.le_of_eq g4.symm)
    have sz_b4 : h0.size ≤ b4 := Nat.le_trans (Keep.refl h0 []).1 (Nat.le_of_eq g4.symm)
    have K4 : Keep h0 h4 [] := (Keep.refl h0 []).ext E4
    have V_b4 : AV Z h4 b4 .double (1 : Int32) [(.double (0 : UInt64))] := AV.new A4 (by decide)
    obtain ⟨cl5, A5, S5, Nl5, M5⟩ := id V_b4
    have hin5 : ¬ ((0 : Int32) < 0 ∨ cl5.slots.size ≤ ((0 : Int32)).toNatClampNeg) := AV.inb S5 Nl5 ⟨by decide, by decide⟩
    obtain ⟨T5, h5, X5, e5, W5, st5⟩ := stD X4 hx hZ e4 A5 (j := (0 : Int32)) hin5 (g := (mkF m 22 #[.val (.int p1), .val (.int p2), .val (.int p3), .val (.int p4), .val (.int p5), .val (.int (1 : Int32)), .val (.ref b4), .val (.long (p2.toInt64)), .second, .unset, .unset, .unset, .unset] [(.double (FP.l2d (p2.toInt64))), (.int (0 : Int32)), (.ref b4)])) rfl rfl (hb hby at_22)
    have V5 : AV Z h5 b4 .double (1 : Int32) [(.double (FP.l2d (p2.toInt64)))] := AV.set A5 S5 Nl5 M5 W5
    have K5 : Keep h0 h5 [] := K4.wr W5 (Or.inr sz_b4)
    have N5 := Fr.snoc X5 N0 g_b4
    obtain ⟨_, _, ⟨T6, L6, k6, n6⟩, -, X6, ⟨Lc6, hQ6, l6, y6, z6⟩, st6⟩ := Jvm.LawKit.callS X5 hx (y := (⟨"com/example/byeonhwa/byeonhwa/WelchTest", "mean", "([D)D"⟩ : MethodName)) hown (mvT hZ (hw _ (List.mem_of_getElem? (i := 1) rfl))) (mvT hZ (hw _ (List.mem_of_getElem? (i := 2) rfl))) (mvT hZ (hw _ (List.mem_of_getElem? (i := 3) rfl))) (mvT hZ (hw _ (List.mem_of_getElem? (i := 4) rfl))) (by decide) (backOf (W := 0) (rm1n1 l Z a0 hw [] b4 (p2.toInt64) h5 n0 (Nat.le_trans Z0 K5.1) V5 (own_b31 _)) hZ (hw _ (List.mem_of_getElem? (i := 4) rfl)) (hw _ (List.mem_of_getElem? (i := 3) rfl)) (by decide) (by decide)) (g := (mkF m 93 #[.val (.int p1), .val (.int p2), .val (.int p3), .val (.int p4), .val (.int p5), .val (.int (1 : Int32)), .val (.ref b4), .val (.long (p2.toInt64)), .second, .val (.double (FP.ddiv (FP.l2d (p2.toInt64)) (FP.l2d (1 : Int64)))), .second, .unset, .unset] [(.ref b4)])) rfl (by rw [hml]; rfl) (argsL := [(.ref b4)]) (rest := []) (lenOf pd_0 rfl) rfl (by show 2 * 0 + _ ≤ _; exact Nat.le_of_eq rfl) (hb hby at_93) (fun _ _ => ⟨rfl, e5, (by decide : 1 + 0 ≤ _), (by decide : 1 + 0 ≤ _)⟩)
    dsimp only [Pt.U, Pt.locs, Pt.cells, Pt.slots] at X6 l6 y6 z6 st6 hQ6
    subst l6 y6 z6
    obtain ⟨rfl, N6q, e6⟩ := hQ6
    have N6 := Fr.app N5 N6q
    obtain ⟨fs, hr, hrun, hended, hW, hsame⟩ := X6.leave (v := some (.int (1 : Int32))) (fun h => by rw [Bd.returns] at h; cases h)
    refine ⟨_, _, pre3 _ ?_, hrun, hended, _, _, rfl, ?_, ⟨_, rfl⟩, hW, hsame.mono (by decide) (by decide)⟩
    · show Steps p.tables e below (s₁.setTop (mkF m 3 #[.val (.int p1), .val (.int p2), .val (.int p3), .val (.int p4), .val (.int p5), .unset, .unset, .unset, .unset, .unset, .unset, .unset, .unset] [(.int (0 : Int32))])) _
      refine XS.iconst X0.here hx rfl (hb hby at_3) ?_
      show Steps p.tables e below (s₁.setTop (mkF m 4 #[.val (.int p1), .val (.int p2), .val (.int p3), .val (.int p4), .val (.int p5), .unset, .unset, .unset, .unset, .unset, .unset, .unset, .unset] [(.int (1 : Int32)), (.int (0 : Int32))])) _
      refine XS.iadd X0.here hx rfl (hb hby at_4) rfl ?_
      show Steps p.tables e below (s₁.setTop (mkF m 5 #[.val (.int p1), .val (.int p2), .val (.int p3), .val (.int p4), .val (.int p5), .unset, .unset, .unset, .unset, .unset, .unset, .unset, .unset] [(.int (1 : Int32))])) _
      refine XS.istore X0.here hx rfl (hb hby at_5) rfl (l' := #[.val (.int p1), .val (.int p2), .val (.int p3), .val (.int p4), .val (.int p5), .val (.int (1 : Int32)), .unset, .unset, .unset, .unset, .unset, .unset, .unset]) rfl ?_
      show Steps p.tables e below (s₁.setTop (mkF m 7 #[.val (.int p1), .val (.int p2), .val (.int p3), .val (.int p4), .val (.int p5), .val (.int (1 : Int32)), .unset, .unset, .unset, .unset, .unset, .unset, .unset] [])) _
      refine XS.iload X0.here hx rfl (hb hby at_7) rfl ?_
      show Steps p.tables e below (s₁.setTop (mkF m 9 #[.val (.int p1), .val (.int p2), .val (.int p3), .val (.int p4), .val (.int p5), .val (.int (1 : Int32)), .unset, .unset, .unset, .unset, .unset, .unset, .unset] [(.int (1 : Int32))])) _
      refine st4 _ ?_
      show Steps p.tables e below (T4.setTop (mkF m 11 #[.val (.int p1), .val (.int p2), .val (.int p3), .val (.int p4), .val (.int p5), .val (.int (1 : Int32)), .unset, .unset, .unset, .unset, .unset, .unset, .unset] [(.ref b4)])) _
      refine XS.astore X4.here hx rfl (hb hby at_11) rfl rfl (l' := #[.val (.int p1), .val (.int p2), .val (.int p3), .val (.int p4), .val (.int p5), .val (.int (1 : Int32)), .val (.ref b4), .unset, .unset, .unset, .unset, .unset, .unset]) rfl ?_
      show Steps p.tables e below (T4.setTop (mkF m 13 #[.val (.int p1), .val (.int p2), .val (.int p3), .val (.int p4), .val (.int p5), .val (.int (1 : Int32)), .val (.ref b4), .unset, .unset, .unset, .unset, .unset, .unset] [])) _
      refine XS.iloadN X4.here hx rfl (hb hby at_13) rfl ?_
      show Steps p.tables e below (T4.setTop (mkF m 14 #[.val (.int p1), .val (.int p2), .val (.int p3), .val (.int p4), .val (.int p5), .val (.int (1 : Int32)), .val (.ref b4), .unset, .unset, .unset, .unset, .unset, .unset] [(.int p2)])) _
      refine XS.i2l X4.here hx rfl (hb hby at_14) rfl ?_
      show Steps p.tables e below (T4.setTop (mkF m 15 #[.val (.int p1), .val (.int p2), .val (.int p3), .val (.int p4), .val (.int p5), .val (.int (1 : Int32)), .val (.ref b4), .unset, .unset, .unset, .unset, .unset, .unset] [(.long (p2.toInt64))])) _
      refine XS.lstore X4.here hx rfl (hb hby at_15) rfl (l' := #[.val (.int p1), .val (.int p2), .val (.int p3), .val (.int p4), .val (.int p5), .val (.int (1 : Int32)), .val (.ref b4), .val (.long (p2.toInt64)), .second, .unset, .unset, .unset, .unset]) rfl ?_
      show Steps p.tables e below (T4.setTop (mkF m 17 #[.val (.int p1), .val (.int p2), .val (.int p3), .val (.int p4), .val (.int p5), .val (.int (1 : Int32)), .val (.ref b4), .val (.long (p2.toInt64)), .second, .unset, .unset, .unset, .unset] [])) _
      refine XS.aload X4.here hx rfl (hb hby at_17) rfl rfl ?_
      show Steps p.tables e below (T4.setTop (mkF m 19 #[.val (.int p1), .val (.int p2), .val (.int p3), .val (.int p4), .val (.int p5), .val (.int (1 : Int32)), .val (.ref b4), .val (.long (p2.toInt64)), .second, .unset, .unset, .unset, .unset] [(.ref b4)])) _
      refine XS.iconst X4.here hx rfl (hb hby at_19) ?_
      show Steps p.tables e below (T4.setTop (mkF m 20 #[.val (.int p1), .val (.int p2), .val (.int p3), .val (.int p4), .val (.int p5), .val (.int (1 : Int32)), .val (.ref b4), .val (.long (p2.toInt64)), .second, .unset, .unset, .unset, .unset] [(.int (0 : Int32)), (.ref b4)])) _
      refine XS.iloadN X4.here hx rfl (hb hby at_20) rfl ?_
      show Steps p.tables e below (T4.setTop (mkF m 21 #[.val (.int p1), .val (.int p2), .val (.int p3), .val (.int p4), .val (.int p5), .val (.int (1 : Int32)), .val (.ref b4), .val (.long (p2.toInt64)), .second, .unset, .unset, .unset, .unset] [(.int p2), (.int (0 : Int32)), (.ref b4)])) _
      refine XS.i2dS X4.here hx rfl (v := (FP.l2d (p2.toInt64))) (hb hby at_21) rfl (i2d_w _) ?_
      show Steps p.tables e below (T4.setTop (mkF m 22 #[.val (.int p1), .val (.int p2), .val (.int p3), .val (.int p4), .val (.int p5), .val (.int (1 : Int32)), .val (.ref b4), .val (.long (p2.toInt64)), .second, .unset, .unset, .unset, .unset] [(.double (FP.l2d (p2.toInt64))), (.int (0 : Int32)), (.ref b4)])) _
      refine st5 _ ?_
      show Steps p.tables e below (T5.setTop (mkF m 23 #[.val (.int p1), .val (.int p2), .val (.int p3), .val (.int p4), .val (.int p5), .val (.int (1 : Int32)), .val (.ref b4), .val (.long (p2.toInt64)), .second, .unset, .unset, .unset, .unset] [])) _
      refine XS.iload X5.here hx rfl (hb hby at_23) rfl ?_
      show Steps p.tables e below (T5.setTop (mkF m 25 #[.val (.int p1), .val (.int p2), .val (.int p3), .val (.int p4), .val (.int p5), .val (.int (1 : Int32)), .val (.ref b4), .val (.long (p2.toInt64)), .second, .unset, .unset, .unset, .unset] [(.int (1 : Int32))])) _
      refine XS.iconst X5.here hx rfl (hb hby at_25) ?_
      show Steps p.tables e below (T5.setTop (mkF m 26 #[.val (.int p1), .val (.int p2), .val (.int p3), .val (.int p4), .val (.int p5), .val (.int (1 : Int32)), .val (.ref b4), .val (.long (p2.toInt64)), .second, .unset, .unset, .unset, .unset] [(.int (1 : Int32)), (.int (1 : Int32))])) _
      refine XS.icmpYes X5.here hx rfl (pc0 := 26) (pc' := 42) rfl (hb hby at_26) rfl (flt (by decide : ¬ ((1 : Int32) < (1 : Int32)))).2.2.2 (by decide) (by decide) ?_
      show Steps p.tables e below (T5.setTop (mkF m 42 #[.val (.int p1), .val (.int p2), .val (.int p3), .val (.int p4), .val (.int p5), .val (.int (1 : Int32)), .val (.ref b4), .val (.long (p2.toInt64)), .second, .unset, .unset, .unset, .unset] [])) _
      refine XS.iload X5.here hx rfl (hb hby at_42) rfl ?_
      show Steps p.tables e below (T5.setTop (mkF m 44 #[.val (.int p1), .val (.int p2), .val (.int p3), .val (.int p4), .val (.int p5), .val (.int (1 : Int32)), .val (.ref b4), .val (.long (p2.toInt64)), .second, .unset, .unset, .unset, .unset] [(.int (1 : Int32))])) _
      refine XS.iconst X5.here hx rfl (hb hby at_44) ?_
      show Steps p.tables e below (T5.setTop (mkF m 45 #[.val (.int p1), .val (.int p2), .val (.int p3), .val (.int p4), .val (.int p5), .val (.int (1 : Int32)), .val (.ref b4), .val (.long (p2.toInt64)), .second, .unset, .unset, .unset, .unset] [(.int (2 : Int32)), (.int (1 : Int32))])) _
      refine XS.icmpYes X5.here hx rfl (pc0 := 45) (pc' := 61) rfl (hb hby at_45) rfl (flt (by decide : ¬ ((2 : Int32) < (1 : Int32)))).2.2.2 (by decide) (by decide) ?_
      show Steps p.tables e below (T5.setTop (mkF m 61 #[.val (.int p1), .val (.int p2), .val (.int p3), .val (.int p4), .val (.int p5), .val (.int (1 : Int32)), .val (.ref b4), .val (.long (p2.toInt64)), .second, .unset, .unset, .unset, .unset] [])) _
      refine XS.iload X5.here hx rfl (hb hby at_61) rfl ?_
      show Steps p.tables e below (T5.setTop (mkF m 63 #[.val (.int p1), .val (.int p2), .val (.int p3), .val (.int p4), .val (.int p5), .val (.int (1 : Int32)), .val (.ref b4), .val (.long (p2.toInt64)), .second, .unset, .unset, .unset, .unset] [(.int (1 : Int32))])) _
      refine XS.iconst X5.here hx rfl (hb hby at_63) ?_
      show Steps p.tables e below (T5.setTop (mkF m 64 #[.val (.int p1), .val (.int p2), .val (.int p3), .val (.int p4), .val (.int p5), .val (.int (1 : Int32)), .val (.ref b4), .val (.long (p2.toInt64)), .second, .unset, .unset, .unset, .unset] [(.int (3 : Int32)), (.int (1 : Int32))])) _
      refine XS.icmpYes X5.here hx rfl (pc0 := 64) (pc' := 82) rfl (hb hby at_64) rfl (flt (by decide : ¬ ((3 : Int32) < (1 : Int32)))).2.2.2 (by decide) (by decide) ?_
      show Steps p.tables e below (T5.setTop (mkF m 82 #[.val (.int p1), .val (.int p2), .val (.int p3), .val (.int p4), .val (.int p5), .val (.int (1 : Int32)), .val (.ref b4), .val (.long (p2.toInt64)), .second, .unset, .unset, .unset, .unset] [])) _
      refine XS.lload X5.here hx rfl (hb hby at_82) rfl ?_
      show Steps p.tables e below (T5.setTop (mkF m 84 #[.val (.int p1), .val (.int p2), .val (.int p3), .val (.int p4), .val (.int p5), .val (.int (1 : Int32)), .val (.ref b4), .val (.long (p2.toInt64)), .second, .unset, .unset, .unset, .unset] [(.long (p2.toInt64))])) _
      refine XS.l2dS X5.here hx rfl (v := (FP.l2d (p2.toInt64))) (hb hby at_84) rfl rfl ?_
      show Steps p.tables e below (T5.setTop (mkF m 85 #[.val (.int p1), .val (.int p2), .val (.int p3), .val (.int p4), .val (.int p5), .val (.int (1 : Int32)), .val (.ref b4), .val (.long (p2.toInt64)), .second, .unset, .unset, .unset, .unset] [(.double (FP.l2d (p2.toInt64)))])) _
      refine XS.iload X5.here hx rfl (hb hby at_85) rfl ?_
      show Steps p.tables e below (T5.setTop (mkF m 87 #[.val (.int p1), .val (.int p2), .val (.int p3), .val (.int p4), .val (.int p5), .val (.int (1 : Int32)), .val (.ref b4), .val (.long (p2.toInt64)), .second, .unset, .unset, .unset, .unset] [(.int (1 : Int32)), (.double (FP.l2d (p2.toInt64)))])) _
      refine XS.i2dS X5.here hx rfl (v := (FP.l2d (1 : Int64))) (hb hby at_87) rfl (i2d_w _) ?_
      show Steps p.tables e below (T5.setTop (mkF m 88 #[.val (.int p1), .val (.int p2), .val (.int p3), .val (.int p4), .val (.int p5), .val (.int (1 : Int32)), .val (.ref b4), .val (.long (p2.toInt64)), .second, .unset, .unset, .unset, .unset] [(.double (FP.l2d (1 : Int64))), (.double (FP.l2d (p2.toInt64)))])) _
      refine XS.ddivS X5.here hx rfl (v := (FP.ddiv (FP.l2d (p2.toInt64)) (FP.l2d (1 : Int64)))) (hb hby at_88) rfl (own_nn (by decide)) rfl ?_
      show Steps p.tables e below (T5.setTop (mkF m 89 #[.val (.int p1), .val (.int p2), .val (.int p3), .val (.int p4), .val (.int p5), .val (.int (1 : Int32)), .val (.ref b4), .val (.long (p2.toInt64)), .second, .unset, .unset, .unset, .unset] [(.double (FP.ddiv (FP.l2d (p2.toInt64)) (FP.l2d (1 : Int64))))])) _
      refine XS.dstore X5.here hx rfl (hb hby at_89) rfl (l' := #[.val (.int p1), .val (.int p2), .val (.int p3), .val (.int p4), .val (.int p5), .val (.int (1 : Int32)), .val (.ref b4), .val (.long (p2.toInt64)), .second, .val (.double (FP.ddiv (FP.l2d (p2.toInt64)) (FP.l2d (1 : Int64)))), .second, .unset, .unset]) rfl ?_
      show Steps p.tables e below (T5.setTop (mkF m 91 #[.val (.int p1), .val (.int p2), .val (.int p3), .val (.int p4), .val (.int p5), .val (.int (1 : Int32)), .val (.ref b4), .val (.long (p2.toInt64)), .second, .val (.double (FP.ddiv (FP.l2d (p2.toInt64)) (FP.l2d (1 : Int64)))), .second, .unset, .unset] [])) _
      refine XS.aload X5.here hx rfl (hb hby at_91) rfl rfl ?_
      show Steps p.tables e below (T5.setTop (mkF m 93 #[.val (.int p1), .val (.int p2), .val (.int p3), .val (.int p4), .val (.int p5), .val (.int (1 : Int32)), .val (.ref b4), .val (.long (p2.toInt64)), .second, .val (.double (FP.ddiv (FP.l2d (p2.toInt64)) (FP.l2d (1 : Int64)))), .second, .unset, .unset] [(.ref b4)])) _
      refine st6 _ ?_
      show Steps p.tables e below (T6.setTop (mkF m 96 #[.val (.int p1), .val (.int p2), .val (.int p3), .val (.int p4), .val (.int p5), .val (.int (1 : Int32)), .val (.ref b4), .val (.long (p2.toInt64)), .second, .val (.double (FP.ddiv (FP.l2d (p2.toInt64)) (FP.l2d (1 : Int64)))), .second, .unset, .unset] [(.double (FP.ddiv (FP.l2d ((0 : Int64) + (p2.toInt64))) (FP.l2d (1 : Int64))))])) _
      refine XS.dstore X6.here hx rfl (hb hby at_96) rfl (l' := #[.val (.int p1), .val (.int p2), .val (.int p3), .val (.int p4), .val (.int p5), .val (.int (1 : Int32)), .val (.ref b4), .val (.long (p2.toInt64)), .second, .val (.double (FP.ddiv (FP.l2d (p2.toInt64)) (FP.l2d (1 : Int64)))), .second, .val (.double (FP.ddiv (FP.l2d ((0 : Int64) + (p2.toInt64))) (FP.l2d (1 : Int64)))), .second]) rfl ?_
      show Steps p.tables e below (T6.setTop (mkF m 98 #[.val (.int p1), .val (.int p2), .val (.int p3), .val (.int p4), .val (.int p5), .val (.int (1 : Int32)), .val (.ref b4), .val (.long (p2.toInt64)), .second, .val (.double (FP.ddiv (FP.l2d (p2.toInt64)) (FP.l2d (1 : Int64)))), .second, .val (.double (FP.ddiv (FP.l2d ((0 : Int64) + (p2.toInt64))) (FP.l2d (1 : Int64)))), .second] [])) _
      refine XS.dload X6.here hx rfl (hb hby at_98) rfl ?_
      show Steps p.tables e below (T6.setTop (mkF m 100 #[.val (.int p1), .val (.int p2), .val (.int p3), .val (.int p4), .val (.int p5), .val (.int (1 : Int32)), .val (.ref b4), .val (.long (p2.toInt64)), .second, .val (.double (FP.ddiv (FP.l2d (p2.toInt64)) (FP.l2d (1 : Int64)))), .second, .val (.double (FP.ddiv (FP.l2d ((0 : Int64) + (p2.toInt64))) (FP.l2d (1 : Int64)))), .second] [(.double (FP.ddiv (FP.l2d ((0 : Int64) + (p2.toInt64))) (FP.l2d (1 : Int64))))])) _
      refine XS.dload X6.here hx rfl (hb hby at_100) rfl ?_
      show Steps p.tables e below (T6.setTop (mkF m 102 #[.val (.int p1), .val (.int p2), .val (.int p3), .val (.int p4), .val (.int p5), .val (.int (1 : Int32)), .val (.ref b4), .val (.long (p2.toInt64)), .second, .val (.double (FP.ddiv (FP.l2d (p2.toInt64)) (FP.l2d (1 : Int64)))), .second, .val (.double (FP.ddiv (FP.l2d ((0 : Int64) + (p2.toInt64))) (FP.l2d (1 : Int64)))), .second] [(.double (FP.ddiv (FP.l2d (p2.toInt64)) (FP.l2d (1 : Int64)))), (.double (FP.ddiv (FP.l2d ((0 : Int64) + (p2.toInt64))) (FP.l2d (1 : Int64))))])) _
      refine XS.dcmpS X6.here hx rfl (v := (0 : Int32)) (hb hby at_102) rfl (dcmpV_eq (by simp only [Int64.zero_add]) (own_nn (by decide)) _) ?_
      show Steps p.tables e below (T6.setTop (mkF m 103 #[.val (.int p1), .val (.int p2), .val (.int p3), .val (.int p4), .val (.int p5), .val (.int (1 : Int32)), .val (.ref b4), .val (.long (p2.toInt64)), .second, .val (.double (FP.ddiv (FP.l2d (p2.toInt64)) (FP.l2d (1 : Int64)))), .second, .val (.double (FP.ddiv (FP.l2d ((0 : Int64) + (p2.toInt64))) (FP.l2d (1 : Int64)))), .second] [(.int (0 : Int32))])) _
      refine XS.ifNo X6.here hx rfl (hb hby at_103) rfl ((if0 _ _).trans (teq (rfl : (0 : Int32) = (0 : Int32))).2) ?_
      show Steps p.tables e below (T6.setTop (mkF m 106 #[.val (.int p1), .val (.int p2), .val (.int p3), .val (.int p4), .val (.int p5), .val (.int (1 : Int32)), .val (.ref b4), .val (.long (p2.toInt64)), .second, .val (.double (FP.ddiv (FP.l2d (p2.toInt64)) (FP.l2d (1 : Int64)))), .second, .val (.double (FP.ddiv (FP.l2d ((0 : Int64) + (p2.toInt64))) (FP.l2d (1 : Int64)))), .second] [])) _
      refine XS.iconst X6.here hx rfl (hb hby at_106) ?_
      show Steps p.tables e below (T6.setTop (mkF m 107 #[.val (.int p1), .val (.int p2), .val (.int p3), .val (.int p4), .val (.int p5), .val (.int (1 : Int32)), .val (.ref b4), .val (.long (p2.toInt64)), .second, .val (.double (FP.ddiv (FP.l2d (p2.toInt64)) (FP.l2d (1 : Int64)))), .second, .val (.double (FP.ddiv (FP.l2d ((0 : Int64) + (p2.toInt64))) (FP.l2d (1 : Int64)))), .second] [(.int (1 : Int32))])) _
      refine XS.goto X6.here hx rfl (pc0 := 107) (pc' := 111) rfl (hb hby at_107) (by decide) (by decide) ?_
      show Steps p.tables e below (T6.setTop (mkF m 111 #[.val (.int p1), .val (.int p2), .val (.int p3), .val (.int p4), .val (.int p5), .val (.int (1 : Int32)), .val (.ref b4), .val (.long (p2.toInt64)), .second, .val (.double (FP.ddiv (FP.l2d (p2.toInt64)) (FP.l2d (1 : Int64)))), .second, .val (.double (FP.ddiv (FP.l2d ((0 : Int64) + (p2.toInt64))) (FP.l2d (1 : Int64)))), .second] [(.int (1 : Int32))])) _
      exact retN X6 hx (t := .boolean) Bd.returns (by simp) (hb hby at_111) hr
    · show Q0 Z p1 p2 p3 p4 p5 h0 n0 _ T6.heap _
      rw [e6]
      exact ⟨rfl, N6⟩
  · have pre8 : ∀ t, Steps p.tables e below (s₁.setTop (mkF m 3 #[.val (.int p1), .val (.int p2), .val (.int p3), .val (.int p4), .val (.int p5), .unset, .unset, .unset, .unset, .unset, .unset, .unset, .unset] [(.int (1 : Int32))])) t → Steps p.tables e below (s₁.setTop (entryFrame m #[(.int p1), (.int p2), (.int p3), (.int p4), (.int p5)] maxLocals)) t := fun t k => pre1 t (by
      show Steps p.tables e below (s₁.setTop (mkF m 3 #[.val (.int p1), .val (.int p2), .val (.int p3), .val (.int p4), .val (.int p5), .unset, .unset, .unset, .unset, .unset, .unset, .unset, .unset] [(.int (p1 &&& (3 : Int32)))])) _
      rw [hk2]
      exact k)
    obtain ⟨T9, h9, k9, X9, e9, E9, A9, st9⟩ := newP X0 hx hZ (hw _ (List.mem_of_getElem? (i := 0) rfl)) e0 (g := (mkF m 9 #[.val (.int p1), .val (.int p2), .val (.int p3), .val (.int p4), .val (.int p5), .val (.int (2 : Int32)), .unset, .unset, .unset, .unset, .unset, .unset, .unset] [(.int (2 : Int32))])) rfl (hb hby at_9) rfl (by decide) (cap := 2) (by decide) (by decide) (by decide) (by decide)
    obtain ⟨b9, g9⟩ : ∃ z, z = h0.size := ⟨_, rfl⟩
    rw [← g9] at A9 st9
    have g_b9 : n0 ≤ b9 := Nat.le_trans Z0 (Nat.le_of_eq g9.symm)
    have sz_b9 : h0.size ≤ b9 := Nat.le_trans (Keep.refl h0 []).1 (Nat.le_of_eq g9.symm)
    have K9 : Keep h0 h9 [] := (Keep.refl h0 []).ext E9
    have V_b9 : AV Z h9 b9 .double (2 : Int32) [(.double (0 : UInt64)), (.double (0 : UInt64))] := AV.new A9 (by decide)
    obtain ⟨cl10, A10, S10, Nl10, M10⟩ := id V_b9
    have hin10 : ¬ ((0 : Int32) < 0 ∨ cl10.slots.size ≤ ((0 : Int32)).toNatClampNeg) := AV.inb S10 Nl10 ⟨by decide, by decide⟩
    obtain ⟨T10, h10, X10, e10, W10, st10⟩ := stD X9 hx hZ e9 A10 (j := (0 : Int32)) hin10 (g := (mkF m 22 #[.val (.int p1), .val (.int p2), .val (.int p3), .val (.int p4), .val (.int p5), .val (.int (2 : Int32)), .val (.ref b9), .val (.long (p2.toInt64)), .second, .unset, .unset, .unset, .unset] [(.double (FP.l2d (p2.toInt64))), (.int (0 : Int32)), (.ref b9)])) rfl rfl (hb hby at_22)
    have V10 : AV Z h10 b9 .double (2 : Int32) [(.double (FP.l2d (p2.toInt64))), (.double (0 : UInt64))] := AV.set A10 S10 Nl10 M10 W10
    have K10 : Keep h0 h10 [] := K9.wr W10 (Or.inr sz_b9)
    have N10 := Fr.snoc X10 N0 g_b9
    obtain ⟨cl11, A11, S11, Nl11, M11⟩ := id V10
    have hin11 : ¬ ((1 : Int32) < 0 ∨ cl11.slots.size ≤ ((1 : Int32)).toNatClampNeg) := AV.inb S11 Nl11 ⟨by decide, by decide⟩
    obtain ⟨T11, h11, X11, e11, W11, st11⟩ := stD X10 hx hZ e10 A11 (j := (1 : Int32)) hin11 (g := (mkF m 34 #[.val (.int p1), .val (.int p2), .val (.int p3), .val (.int p4), .val (.int p5), .val (.int (2 : Int32)), .val (.ref b9), .val (.long (p2.toInt64)), .second, .unset, .unset, .unset, .unset] [(.double (FP.l2d (p3.toInt64))), (.int (1 : Int32)), (.ref b9)])) rfl rfl (hb hby at_34)
    have V11 : AV Z h11 b9 .double (2 : Int32) [(.double (FP.l2d (p2.toInt64))), (.double (FP.l2d (p3.toInt64)))] := AV.set A11 S11 Nl11 M11 W11
    have K11 : Keep h0 h11 [] := K10.wr W11 (Or.inr sz_b9)
    have N11 := Fr.snoc X11 N10 g_b9
    obtain ⟨_, _, ⟨T12, L12, k12, n12⟩, -, X12, ⟨Lc12, hQ12, l12, y12, z12⟩, st12⟩ := Jvm.LawKit.callS X11 hx (y := (⟨"com/example/byeonhwa/byeonhwa/WelchTest", "mean", "([D)D"⟩ : MethodName)) hown (mvT hZ (hw _ (List.mem_of_getElem? (i := 1) rfl))) (mvT hZ (hw _ (List.mem_of_getElem? (i := 2) rfl))) (mvT hZ (hw _ (List.mem_of_getElem? (i := 3) rfl))) (mvT hZ (hw _ (List.mem_of_getElem? (i := 4) rfl))) (by decide) (backOf (W := 0) (rm1n2 l Z a0 hw [] b9 (p2.toInt64) (p3.toInt64) h11 n0 (Nat.le_trans Z0 K11.1) V11 (own_b31 _) (own_b31 _)) hZ (hw _ (List.mem_of_getElem? (i := 4) rfl)) (hw _ (List.mem_of_getElem? (i := 3) rfl)) (by decide) (by decide)) (g := (mkF m 93 #[.val (.int p1), .val (.int p2), .val (.int p3), .val (.int p4), .val (.int p5), .val (.int (2 : Int32)), .val (.ref b9), .val (.long ((p2.toInt64) + (p3.toInt64))), .second, .val (.double (FP.ddiv (FP.l2d ((p2.toInt64) + (p3.toInt64))) (FP.l2d (2 : Int64)))), .second, .unset, .unset] [(.ref b9)])) rfl (by rw [hml]; rfl) (argsL := [(.ref b9)]) (rest := []) (lenOf pd_0 rfl) rfl (by show 2 * 0 + _ ≤ _; exact Nat.le_of_eq rfl) (hb hby at_93) (fun _ _ => ⟨rfl, e11, (by decide : 1 + 0 ≤ _), (by decide : 2 + 0 ≤ _)⟩)
    dsimp only [Pt.U, Pt.locs, Pt.cells, Pt.slots] at X12 l12 y12 z12 st12 hQ12
    subst l12 y12 z12
    obtain ⟨rfl, N12q, e12⟩ := hQ12
    have N12 := Fr.app N11 N12q
    obtain ⟨fs, hr, hrun, hended, hW, hsame⟩ := X12.leave (v := some (.int (1 : Int32))) (fun h => by rw [Bd.returns] at h; cases h)
    refine ⟨_, _, pre8 _ ?_, hrun, hended, _, _, rfl, ?_, ⟨_, rfl⟩, hW, hsame.mono (by decide) (by decide)⟩
    · show Steps p.tables e below (s₁.setTop (mkF m 3 #[.val (.int p1), .val (.int p2), .val (.int p3), .val (.int p4), .val (.int p5), .unset, .unset, .unset, .unset, .unset, .unset, .unset, .unset] [(.int (1 : Int32))])) _
      refine XS.iconst X0.here hx rfl (hb hby at_3) ?_
      show Steps p.tables e below (s₁.setTop (mkF m 4 #[.val (.int p1), .val (.int p2), .val (.int p3), .val (.int p4), .val (.int p5), .unset, .unset, .unset, .unset, .unset, .unset, .unset, .unset] [(.int (1 : Int32)), (.int (1 : Int32))])) _
      refine XS.iadd X0.here hx rfl (hb hby at_4) rfl ?_
      show Steps p.tables e below (s₁.setTop (mkF m 5 #[.val (.int p1), .val (.int p2), .val (.int p3), .val (.int p4), .val (.int p5), .unset, .unset, .unset, .unset, .unset, .unset, .unset, .unset] [(.int (2 : Int32))])) _
      refine XS.istore X0.here hx rfl (hb hby at_5) rfl (l' := #[.val (.int p1), .val (.int p2), .val (.int p3), .val (.int p4), .val (.int p5), .val (.int (2 : Int32)), .unset, .unset, .unset, .unset, .unset, .unset, .unset]) rfl ?_
      show Steps p.tables e below (s₁.setTop (mkF m 7 #[.val (.int p1), .val (.int p2), .val (.int p3), .val (.int p4), .val (.int p5), .val (.int (2 : Int32)), .unset, .unset, .unset, .unset, .unset, .unset, .unset] [])) _
      refine XS.iload X0.here hx rfl (hb hby at_7) rfl ?_
      show Steps p.tables e below (s₁.setTop (mkF m 9 #[.val (.int p1), .val (.int p2), .val (.int p3), .val (.int p4), .val (.int p5), .val (.int (2 : Int32)), .unset, .unset, .unset, .unset, .unset, .unset, .unset] [(.int (2 : Int32))])) _
      refine st9 _ ?_
      show Steps p.tables e below (T9.setTop (mkF m 11 #[.val (.int p1), .val (.int p2), .val (.int p3), .val (.int p4), .val (.int p5), .val (.int (2 : Int32)), .unset, .unset, .unset, .unset, .unset, .unset, .unset] [(.ref b9)])) _
      refine XS.astore X9.here hx rfl (hb hby at_11) rfl rfl (l' := #[.val (.int p1), .val (.int p2), .val (.int p3), .val (.int p4), .val (.int p5), .val (.int (2 : Int32)), .val (.ref b9), .unset, .unset, .unset, .unset, .unset, .unset]) rfl ?_
      show Steps p.tables e below (T9.setTop (mkF m 13 #[.val (.int p1), .val (.int p2), .val (.int p3), .val (.int p4), .val (.int p5), .val (.int (2 : Int32)), .val (.ref b9), .unset, .unset, .unset, .unset, .unset, .unset] [])) _
      refine XS.iloadN X9.here hx rfl (hb hby at_13) rfl ?_
      show Steps p.tables e below (T9.setTop (mkF m 14 #[.val (.int p1), .val (.int p2), .val (.int p3), .val (.int p4), .val (.int p5), .val (.int (2 : Int32)), .val (.ref b9), .unset, .unset, .unset, .unset, .unset, .unset] [(.int p2)])) _
      refine XS.i2l X9.here hx rfl (hb hby at_14) rfl ?_
      show Steps p.tables e below (T9.setTop (mkF m 15 #[.val (.int p1), .val (.int p2), .val (.int p3), .val (.int p4), .val (.int p5), .val (.int (2 : Int32)), .val (.ref b9), .unset, .unset, .unset, .unset, .unset, .unset] [(.long (p2.toInt64))])) _
      refine XS.lstore X9.here hx rfl (hb hby at_15) rfl (l' := #[.val (.int p1), .val (.int p2), .val (.int p3), .val (.int p4), .val (.int p5), .val (.int (2 : Int32)), .val (.ref b9), .val (.long (p2.toInt64)), .second, .unset, .unset, .unset, .unset]) rfl ?_
      show Steps p.tables e below (T9.setTop (mkF m 17 #[.val (.int p1), .val (.int p2), .val (.int p3), .val (.int p4), .val (.int p5), .val (.int (2 : Int32)), .val (.ref b9), .val (.long (p2.toInt64)), .second, .unset, .unset, .unset, .unset] [])) _
      refine XS.aload X9.here hx rfl (hb hby at_17) rfl rfl ?_
      show Steps p.tables e below (T9.setTop (mkF m 19 #[.val (.int p1), .val (.int p2), .val (.int p3), .val (.int p4), .val (.int p5), .val (.int (2 : Int32)), .val (.ref b9), .val (.long (p2.toInt64)), .second, .unset, .unset, .unset, .unset] [(.ref b9)])) _
      refine XS.iconst X9.here hx rfl (hb hby at_19) ?_
      show Steps p.tables e below (T9.setTop (mkF m 20 #[.val (.int p1), .val (.int p2), .val (.int p3), .val (.int p4), .val (.int p5), .val (.int (2 : Int32)), .val (.ref b9), .val (.long (p2.toInt64)), .second, .unset, .unset, .unset, .unset] [(.int (0 : Int32)), (.ref b9)])) _
      refine XS.iloadN X9.here hx rfl (hb hby at_20) rfl ?_
      show Steps p.tables e below (T9.setTop (mkF m 21 #[.val (.int p1), .val (.int p2), .val (.int p3), .val (.int p4), .val (.int p5), .val (.int (2 : Int32)), .val (.ref b9), .val (.long (p2.toInt64)), .second, .unset, .unset, .unset, .unset] [(.int p2), (.int (0 : Int32)), (.ref b9)])) _
      refine XS.i2dS X9.here hx rfl (v := (FP.l2d (p2.toInt64))) (hb hby at_21) rfl (i2d_w _) ?_
      show Steps p.tables e below (T9.setTop (mkF m 22 #[.val (.int p1), .val (.int p2), .val (.int p3), .val (.int p4), .val (.int p5), .val (.int (2 : Int32)), .val (.ref b9), .val (.long (p2.toInt64)), .second, .unset, .unset, .unset, .unset] [(.double (FP.l2d (p2.toInt64))), (.int (0 : Int32)), (.ref b9)])) _
      refine st10 _ ?_
      show Steps p.tables e below (T10.setTop (mkF m 23 #[.val (.int p1), .val (.int p2), .val (.int p3), .val (.int p4), .val (.int p5), .val (.int (2 : Int32)), .val (.ref b9), .val (.long (p2.toInt64)), .second, .unset, .unset, .unset, .unset] [])) _
      refine XS.iload X10.here hx rfl (hb hby at_23) rfl ?_
      show Steps p.tables e below (T10.setTop (mkF m 25 #[.val (.int p1), .val (.int p2), .val (.int p3), .val (.int p4), .val (.int p5), .val (.int (2 : Int32)), .val (.ref b9), .val (.long (p2.toInt64)), .second, .unset, .unset, .unset, .unset] [(.int (2 : Int32))])) _
      refine XS.iconst X10.here hx rfl (hb hby at_25) ?_
      show Steps p.tables e below (T10.setTop (mkF m 26 #[.val (.int p1), .val (.int p2), .val (.int p3), .val (.int p4), .val (.int p5), .val (.int (2 : Int32)), .val (.ref b9), .val (.long (p2.toInt64)), .second, .unset, .unset, .unset, .unset] [(.int (1 : Int32)), (.int (2 : Int32))])) _
      refine XS.icmpNo X10.here hx rfl (hb hby at_26) rfl (tlt (by decide : (1 : Int32) < (2 : Int32))).2.2.2 ?_
      show Steps p.tables e below (T10.setTop (mkF m 29 #[.val (.int p1), .val (.int p2), .val (.int p3), .val (.int p4), .val (.int p5), .val (.int (2 : Int32)), .val (.ref b9), .val (.long (p2.toInt64)), .second, .unset, .unset, .unset, .unset] [])) _
      refine XS.aload X10.here hx rfl (hb hby at_29) rfl rfl ?_
      show Steps p.tables e below (T10.setTop (mkF m 31 #[.val (.int p1), .val (.int p2), .val (.int p3), .val (.int p4), .val (.int p5), .val (.int (2 : Int32)), .val (.ref b9), .val (.long (p2.toInt64)), .second, .unset, .unset, .unset, .unset] [(.ref b9)])) _
      refine XS.iconst X10.here hx rfl (hb hby at_31) ?_
      show Steps p.tables e below (T10.setTop (mkF m 32 #[.val (.int p1), .val (.int p2), .val (.int p3), .val (.int p4), .val (.int p5), .val (.int (2 : Int32)), .val (.ref b9), .val (.long (p2.toInt64)), .second, .unset, .unset, .unset, .unset] [(.int (1 : Int32)), (.ref b9)])) _
      refine XS.iloadN X10.here hx rfl (hb hby at_32) rfl ?_
      show Steps p.tables e below (T10.setTop (mkF m 33 #[.val (.int p1), .val (.int p2), .val (.int p3), .val (.int p4), .val (.int p5), .val (.int (2 : Int32)), .val (.ref b9), .val (.long (p2.toInt64)), .second, .unset, .unset, .unset, .unset] [(.int p3), (.int (1 : Int32)), (.ref b9)])) _
      refine XS.i2dS X10.here hx rfl (v := (FP.l2d (p3.toInt64))) (hb hby at_33) rfl (i2d_w _) ?_
      show Steps p.tables e below (T10.setTop (mkF m 34 #[.val (.int p1), .val (.int p2), .val (.int p3), .val (.int p4), .val (.int p5), .val (.int (2 : Int32)), .val (.ref b9), .val (.long (p2.toInt64)), .second, .unset, .unset, .unset, .unset] [(.double (FP.l2d (p3.toInt64))), (.int (1 : Int32)), (.ref b9)])) _
      refine st11 _ ?_
      show Steps p.tables e below (T11.setTop (mkF m 35 #[.val (.int p1), .val (.int p2), .val (.int p3), .val (.int p4), .val (.int p5), .val (.int (2 : Int32)), .val (.ref b9), .val (.long (p2.toInt64)), .second, .unset, .unset, .unset, .unset] [])) _
      refine XS.lload X11.here hx rfl (hb hby at_35) rfl ?_
      show Steps p.tables e below (T11.setTop (mkF m 37 #[.val (.int p1), .val (.int p2), .val (.int p3), .val (.int p4), .val (.int p5), .val (.int (2 : Int32)), .val (.ref b9), .val (.long (p2.toInt64)), .second, .unset, .unset, .unset, .unset] [(.long (p2.toInt64))])) _
      refine XS.iloadN X11.here hx rfl (hb hby at_37) rfl ?_
      show Steps p.tables e below (T11.setTop (mkF m 38 #[.val (.int p1), .val (.int p2), .val (.int p3), .val (.int p4), .val (.int p5), .val (.int (2 : Int32)), .val (.ref b9), .val (.long (p2.toInt64)), .second, .unset, .unset, .unset, .unset] [(.int p3), (.long (p2.toInt64))])) _
      refine XS.i2l X11.here hx rfl (hb hby at_38) rfl ?_
      show Steps p.tables e below (T11.setTop (mkF m 39 #[.val (.int p1), .val (.int p2), .val (.int p3), .val (.int p4), .val (.int p5), .val (.int (2 : Int32)), .val (.ref b9), .val (.long (p2.toInt64)), .second, .unset, .unset, .unset, .unset] [(.long (p3.toInt64)), (.long (p2.toInt64))])) _
      refine XS.ladd X11.here hx rfl (hb hby at_39) rfl ?_
      show Steps p.tables e below (T11.setTop (mkF m 40 #[.val (.int p1), .val (.int p2), .val (.int p3), .val (.int p4), .val (.int p5), .val (.int (2 : Int32)), .val (.ref b9), .val (.long (p2.toInt64)), .second, .unset, .unset, .unset, .unset] [(.long ((p2.toInt64) + (p3.toInt64)))])) _
      refine XS.lstore X11.here hx rfl (hb hby at_40) rfl (l' := #[.val (.int p1), .val (.int p2), .val (.int p3), .val (.int p4), .val (.int p5), .val (.int (2 : Int32)), .val (.ref b9), .val (.long ((p2.toInt64) + (p3.toInt64))), .second, .unset, .unset, .unset, .unset]) rfl ?_
      show Steps p.tables e below (T11.setTop (mkF m 42 #[.val (.int p1), .val (.int p2), .val (.int p3), .val (.int p4), .val (.int p5), .val (.int (2 : Int32)), .val (.ref b9), .val (.long ((p2.toInt64) + (p3.toInt64))), .second, .unset, .unset, .unset, .unset] [])) _
      refine XS.iload X11.here hx rfl (hb hby at_42) rfl ?_
      show Steps p.tables e below (T11.setTop (mkF m 44 #[.val (.int p1), .val (.int p2), .val (.int p3), .val (.int p4), .val (.int p5), .val (.int (2 : Int32)), .val (.ref b9), .val (.long ((p2.toInt64) + (p3.toInt64))), .second, .unset, .unset, .unset, .unset] [(.int (2 : Int32))])) _
      refine XS.iconst X11.here hx rfl (hb hby at_44) ?_
      show Steps p.tables e below (T11.setTop (mkF m 45 #[.val (.int p1), .val (.int p2), .val (.int p3), .val (.int p4), .val (.int p5), .val (.int (2 : Int32)), .val (.ref b9), .val (.long ((p2.toInt64) + (p3.toInt64))), .second, .unset, .unset, .unset, .unset] [(.int (2 : Int32)), (.int (2 : Int32))])) _
      refine XS.icmpYes X11.here hx rfl (pc0 := 45) (pc' := 61) rfl (hb hby at_45) rfl (flt (by decide : ¬ ((2 : Int32) < (2 : Int32)))).2.2.2 (by decide) (by decide) ?_
      show Steps p.tables e below (T11.setTop (mkF m 61 #[.val (.int p1), .val (.int p2), .val (.int p3), .val (.int p4), .val (.int p5), .val (.int (2 : Int32)), .val (.ref b9), .val (.long ((p2.toInt64) + (p3.toInt64))), .second, .unset, .unset, .unset, .unset] [])) _
      refine XS.iload X11.here hx rfl (hb hby at_61) rfl ?_
      show Steps p.tables e below (T11.setTop (mkF m 63 #[.val (.int p1), .val (.int p2), .val (.int p3), .val (.int p4), .val (.int p5), .val (.int (2 : Int32)), .val (.ref b9), .val (.long ((p2.toInt64) + (p3.toInt64))), .second, .unset, .unset, .unset, .unset] [(.int (2 : Int32))])) _
      refine XS.iconst X11.here hx rfl (hb hby at_63) ?_
      show Steps p.tables e below (T11.setTop (mkF m 64 #[.val (.int p1), .val (.int p2), .val (.int p3), .val (.int p4), .val (.int p5), .val (.int (2 : Int32)), .val (.ref b9), .val (.long ((p2.toInt64) + (p3.toInt64))), .second, .unset, .unset, .unset, .unset] [(.int (3 : Int32)), (.int (2 : Int32))])) _
      refine XS.icmpYes X11.here hx rfl (pc0 := 64) (pc' := 82) rfl (hb hby at_64) rfl (flt (by decide : ¬ ((3 : Int32) < (2 : Int32)))).2.2.2 (by decide) (by decide) ?_
      show Steps p.tables e below (T11.setTop (mkF m 82 #[.val (.int p1), .val (.int p2), .val (.int p3), .val (.int p4), .val (.int p5), .val (.int (2 : Int32)), .val (.ref b9), .val (.long ((p2.toInt64) + (p3.toInt64))), .second, .unset, .unset, .unset, .unset] [])) _
      refine XS.lload X11.here hx rfl (hb hby at_82) rfl ?_
      show Steps p.tables e below (T11.setTop (mkF m 84 #[.val (.int p1), .val (.int p2), .val (.int p3), .val (.int p4), .val (.int p5), .val (.int (2 : Int32)), .val (.ref b9), .val (.long ((p2.toInt64) + (p3.toInt64))), .second, .unset, .unset, .unset, .unset] [(.long ((p2.toInt64) + (p3.toInt64)))])) _
      refine XS.l2dS X11.here hx rfl (v := (FP.l2d ((p2.toInt64) + (p3.toInt64)))) (hb hby at_84) rfl rfl ?_
      show Steps p.tables e below (T11.setTop (mkF m 85 #[.val (.int p1), .val (.int p2), .val (.int p3), .val (.int p4), .val (.int p5), .val (.int (2 : Int32)), .val (.ref b9), .val (.long ((p2.toInt64) + (p3.toInt64))), .second, .unset, .unset, .unset, .unset] [(.double (FP.l2d ((p2.toInt64) + (p3.toInt64))))])) _
      refine XS.iload X11.here hx rfl (hb hby at_85) rfl ?_
      show Steps p.tables e below (T11.setTop (mkF m 87 #[.val (.int p1), .val (.int p2), .val (.int p3), .val (.int p4), .val (.int p5), .val (.int (2 : Int32)), .val (.ref b9), .val (.long ((p2.toInt64) + (p3.toInt64))), .second, .unset, .unset, .unset, .unset] [(.int (2 : Int32)), (.double (FP.l2d ((p2.toInt64) + (p3.toInt64))))])) _
      refine XS.i2dS X11.here hx rfl (v := (FP.l2d (2 : Int64))) (hb hby at_87) rfl (i2d_w _) ?_
      show Steps p.tables e below (T11.setTop (mkF m 88 #[.val (.int p1), .val (.int p2), .val (.int p3), .val (.int p4), .val (.int p5), .val (.int (2 : Int32)), .val (.ref b9), .val (.long ((p2.toInt64) + (p3.toInt64))), .second, .unset, .unset, .unset, .unset] [(.double (FP.l2d (2 : Int64))), (.double (FP.l2d ((p2.toInt64) + (p3.toInt64))))])) _
      refine XS.ddivS X11.here hx rfl (v := (FP.ddiv (FP.l2d ((p2.toInt64) + (p3.toInt64))) (FP.l2d (2 : Int64)))) (hb hby at_88) rfl (own_nn (by decide)) rfl ?_
      show Steps p.tables e below (T11.setTop (mkF m 89 #[.val (.int p1), .val (.int p2), .val (.int p3), .val (.int p4), .val (.int p5), .val (.int (2 : Int32)), .val (.ref b9), .val (.long ((p2.toInt64) + (p3.toInt64))), .second, .unset, .unset, .unset, .unset] [(.double (FP.ddiv (FP.l2d ((p2.toInt64) + (p3.toInt64))) (FP.l2d (2 : Int64))))])) _
      refine XS.dstore X11.here hx rfl (hb hby at_89) rfl (l' := #[.val (.int p1), .val (.int p2), .val (.int p3), .val (.int p4), .val (.int p5), .val (.int (2 : Int32)), .val (.ref b9), .val (.long ((p2.toInt64) + (p3.toInt64))), .second, .val (.double (FP.ddiv (FP.l2d ((p2.toInt64) + (p3.toInt64))) (FP.l2d (2 : Int64)))), .second, .unset, .unset]) rfl ?_
      show Steps p.tables e below (T11.setTop (mkF m 91 #[.val (.int p1), .val (.int p2), .val (.int p3), .val (.int p4), .val (.int p5), .val (.int (2 : Int32)), .val (.ref b9), .val (.long ((p2.toInt64) + (p3.toInt64))), .second, .val (.double (FP.ddiv (FP.l2d ((p2.toInt64) + (p3.toInt64))) (FP.l2d (2 : Int64)))), .second, .unset, .unset] [])) _
      refine XS.aload X11.here hx rfl (hb hby at_91) rfl rfl ?_
      show Steps p.tables e below (T11.setTop (mkF m 93 #[.val (.int p1), .val (.int p2), .val (.int p3), .val (.int p4), .val (.int p5), .val (.int (2 : Int32)), .val (.ref b9), .val (.long ((p2.toInt64) + (p3.toInt64))), .second, .val (.double (FP.ddiv (FP.l2d ((p2.toInt64) + (p3.toInt64))) (FP.l2d (2 : Int64)))), .second, .unset, .unset] [(.ref b9)])) _
      refine st12 _ ?_
      show Steps p.tables e below (T12.setTop (mkF m 96 #[.val (.int p1), .val (.int p2), .val (.int p3), .val (.int p4), .val (.int p5), .val (.int (2 : Int32)), .val (.ref b9), .val (.long ((p2.toInt64) + (p3.toInt64))), .second, .val (.double (FP.ddiv (FP.l2d ((p2.toInt64) + (p3.toInt64))) (FP.l2d (2 : Int64)))), .second, .unset, .unset] [(.double (FP.ddiv (FP.l2d (((0 : Int64) + (p2.toInt64)) + (p3.toInt64))) (FP.l2d (2 : Int64))))])) _
      refine XS.dstore X12.here hx rfl (hb hby at_96) rfl (l' := #[.val (.int p1), .val (.int p2), .val (.int p3), .val (.int p4), .val (.int p5), .val (.int (2 : Int32)), .val (.ref b9), .val (.long ((p2.toInt64) + (p3.toInt64))), .second, .val (.double (FP.ddiv (FP.l2d ((p2.toInt64) + (p3.toInt64))) (FP.l2d (2 : Int64)))), .second, .val (.double (FP.ddiv (FP.l2d (((0 : Int64) + (p2.toInt64)) + (p3.toInt64))) (FP.l2d (2 : Int64)))), .second]) rfl ?_
      show Steps p.tables e below (T12.setTop (mkF m 98 #[.val (.int p1), .val (.int p2), .val (.int p3), .val (.int p4), .val (.int p5), .val (.int (2 : Int32)), .val (.ref b9), .val (.long ((p2.toInt64) + (p3.toInt64))), .second, .val (.double (FP.ddiv (FP.l2d ((p2.toInt64) + (p3.toInt64))) (FP.l2d (2 : Int64)))), .second, .val (.double (FP.ddiv (FP.l2d (((0 : Int64) + (p2.toInt64)) + (p3.toInt64))) (FP.l2d (2 : Int64)))), .second] [])) _
      refine XS.dload X12.here hx rfl (hb hby at_98) rfl ?_
      show Steps p.tables e below (T12.setTop (mkF m 100 #[.val (.int p1), .val (.int p2), .val (.int p3), .val (.int p4), .val (.int p5), .val (.int (2 : Int32)), .val (.ref b9), .val (.long ((p2.toInt64) + (p3.toInt64))), .second, .val (.double (FP.ddiv (FP.l2d ((p2.toInt64) + (p3.toInt64))) (FP.l2d (2 : Int64)))), .second, .val (.double (FP.ddiv (FP.l2d (((0 : Int64) + (p2.toInt64)) + (p3.toInt64))) (FP.l2d (2 : Int64)))), .second] [(.double (FP.ddiv (FP.l2d (((0 : Int64) + (p2.toInt64)) + (p3.toInt64))) (FP.l2d (2 : Int64))))])) _
      refine XS.dload X12.here hx rfl (hb hby at_100) rfl ?_
      show Steps p.tables e below (T12.setTop (mkF m 102 #[.val (.int p1), .val (.int p2), .val (.int p3), .val (.int p4), .val (.int p5), .val (.int (2 : Int32)), .val (.ref b9), .val (.long ((p2.toInt64) + (p3.toInt64))), .second, .val (.double (FP.ddiv (FP.l2d ((p2.toInt64) + (p3.toInt64))) (FP.l2d (2 : Int64)))), .second, .val (.double (FP.ddiv (FP.l2d (((0 : Int64) + (p2.toInt64)) + (p3.toInt64))) (FP.l2d (2 : Int64)))), .second] [(.double (FP.ddiv (FP.l2d ((p2.toInt64) + (p3.toInt64))) (FP.l2d (2 : Int64)))), (.double (FP.ddiv (FP.l2d (((0 : Int64) + (p2.toInt64)) + (p3.toInt64))) (FP.l2d (2 : Int64))))])) _
      refine XS.dcmpS X12.here hx rfl (v := (0 : Int32)) (hb hby at_102) rfl (dcmpV_eq (by simp only [Int64.zero_add]) (own_nn (by decide)) _) ?_
      show Steps p.tables e below (T12.setTop (mkF m 103 #[.val (.int p1), .val (.int p2), .val (.int p3), .val (.int p4), .val (.int p5), .val (.int (2 : Int32)), .val (.ref b9), .val (.long ((p2.toInt64) + (p3.toInt64))), .second, .val (.double (FP.ddiv (FP.l2d ((p2.toInt64) + (p3.toInt64))) (FP.l2d (2 : Int64)))), .second, .val (.double (FP.ddiv (FP.l2d (((0 : Int64) + (p2.toInt64)) + (p3.toInt64))) (FP.l2d (2 : Int64)))), .second] [(.int (0 : Int32))])) _
      refine XS.ifNo X12.here hx rfl (hb hby at_103) rfl ((if0 _ _).trans (teq (rfl : (0 : Int32) = (0 : Int32))).2) ?_
      show Steps p.tables e below (T12.setTop (mkF m 106 #[.val (.int p1), .val (.int p2), .val (.int p3), .val (.int p4), .val (.int p5), .val (.int (2 : Int32)), .val (.ref b9), .val (.long ((p2.toInt64) + (p3.toInt64))), .second, .val (.double (FP.ddiv (FP.l2d ((p2.toInt64) + (p3.toInt64))) (FP.l2d (2 : Int64)))), .second, .val (.double (FP.ddiv (FP.l2d (((0 : Int64) + (p2.toInt64)) + (p3.toInt64))) (FP.l2d (2 : Int64)))), .second] [])) _
      refine XS.iconst X12.here hx rfl (hb hby at_106) ?_
      show Steps p.tables e below (T12.setTop (mkF m 107 #[.val (.int p1), .val (.int p2), .val (.int p3), .val (.int p4), .val (.int p5), .val (.int (2 : Int32)), .val (.ref b9), .val (.long ((p2.toInt64) + (p3.toInt64))), .second, .val (.double (FP.ddiv (FP.l2d ((p2.toInt64) + (p3.toInt64))) (FP.l2d (2 : Int64)))), .second, .val (.double (FP.ddiv (FP.l2d (((0 : Int64) + (p2.toInt64)) + (p3.toInt64))) (FP.l2d (2 : Int64)))), .second] [(.int (1 : Int32))])) _
      refine XS.goto X12.here hx rfl (pc0 := 107) (pc' := 111) rfl (hb hby at_107) (by decide) (by decide) ?_
      show Steps p.tables e below (T12.setTop (mkF m 111 #[.val (.int p1), .val (.int p2), .val (.int p3), .val (.int p4), .val (.int p5), .val (.int (2 : Int32)), .val (.ref b9), .val (.long ((p2.toInt64) + (p3.toInt64))), .second, .val (.double (FP.ddiv (FP.l2d ((p2.toInt64) + (p3.toInt64))) (FP.l2d (2 : Int64)))), .second, .val (.double (FP.ddiv (FP.l2d (((0 : Int64) + (p2.toInt64)) + (p3.toInt64))) (FP.l2d (2 : Int64)))), .second] [(.int (1 : Int32))])) _
      exact retN X12 hx (t := .boolean) Bd.returns (by simp) (hb hby at_111) hr
    · show Q0 Z p1 p2 p3 p4 p5 h0 n0 _ T12.heap _
      rw [e12]
      exact ⟨rfl, N12⟩
  · have pre14 : ∀ t, Steps p.tables e below (s₁.setTop (mkF m 3 #[.val (.int p1), .val (.int p2), .val (.int p3), .val (.int p4), .val (.int p5), .unset, .unset, .unset, .unset, .unset, .unset, .unset, .unset] [(.int (2 : Int32))])) t → Steps p.tables e below (s₁.setTop (entryFrame m #[(.int p1), (.int p2), (.int p3), (.int p4), (.int p5)] maxLocals)) t := fun t k => pre1 t (by
      show Steps p.tables e below (s₁.setTop (mkF m 3 #[.val (.int p1), .val (.int p2), .val (.int p3), .val (.int p4), .val (.int p5), .unset, .unset, .unset, .unset, .unset, .unset, .unset, .unset] [(.int (p1 &&& (3 : Int32)))])) _
      rw [hk2]
      exact k)
    obtain ⟨T15, h15, k15, X15, e15, E15, A15, st15⟩ := newP X0 hx hZ (hw _ (List.mem_of_getElem? (i := 0) rfl)) e0 (g := (mkF m 9 #[.val (.int p1), .val (.int p2), .val (.int p3), .val (.int p4), .val (.int p5), .val (.int (3 : Int32)), .unset, .unset, .unset, .unset, .unset, .unset, .unset] [(.int (3 : Int32))])) rfl (hb hby at_9) rfl (by decide) (cap := 3) (by decide) (by decide) (by decide) (by decide)
    obtain ⟨b15, g15⟩ : ∃ z, z = h0.size := ⟨_, rfl⟩
    rw [← g15] at A15 st15
    have g_b15 : n0 ≤ b15 := Nat.le_trans Z0 (Nat.le_of_eq g15.symm)
    have sz_b15 : h0.size ≤ b15 := Nat.le_trans (Keep.refl h0 []).1 (Nat.le_of_eq g15.symm)
    have K15 : Keep h0 h15 [] := (Keep.refl h0 []).ext E15
    have V_b15 : AV Z h15 b15 .double (3 : Int32) [(.double (0 : UInt64)), (.double (0 : UInt64)), (.double (0 : UInt64))] := AV.new A15 (by decide)
    obtain ⟨cl16, A16, S16, Nl16, M16⟩ := id V_b15
    have hin16 : ¬ ((0 : Int32) < 0 ∨ cl16.slots.size ≤ ((0 : Int32)).toNatClampNeg) := AV.inb S16 Nl16 ⟨by decide, by decide⟩
    obtain ⟨T16, h16, X16, e16, W16, st16⟩ := stD X15 hx hZ e15 A16 (j := (0 : Int32)) hin16 (g := (mkF m 22 #[.val (.int p1), .val (.int p2), .val (.int p3), .val (.int p4), .val (.int p5), .val (.int (3 : Int32)), .val (.ref b15), .val (.long (p2.toInt64)), .second, .unset, .unset, .unset, .unset] [(.double (FP.l2d (p2.toInt64))), (.int (0 : Int32)), (.ref b15)])) rfl rfl (hb hby at_22)
    have V16 : AV Z h16 b15 .double (3 : Int32) [(.double (FP.l2d (p2.toInt64))), (.double (0 : UInt64)), (.double (0 : UInt64))] := AV.set A16 S16 Nl16 M16 W16
    have K16 : Keep h0 h16 [] := K15.wr W16 (Or.inr sz_b15)
    have N16 := Fr.snoc X16 N0 g_b15
    obtain ⟨cl17, A17, S17, Nl17, M17⟩ := id V16
    have hin17 : ¬ ((1 : Int32) < 0 ∨ cl17.slots.size ≤ ((1 : Int32)).toNatClampNeg) := AV.inb S17 Nl17 ⟨by decide, by decide⟩
    obtain ⟨T17, h17, X17, e17, W17, st17⟩ := stD X16 hx hZ e16 A17 (j := (1 : Int32)) hin17 (g := (mkF m 34 #[.val (.int p1), .val (.int p2), .val (.int p3), .val (.int p4), .val (.int p5), .val (.int (3 : Int32)), .val (.ref b15), .val (.long (p2.toInt64)), .second, .unset, .unset, .unset, .unset] [(.double (FP.l2d (p3.toInt64))), (.int (1 : Int32)), (.ref b15)])) rfl rfl (hb hby at_34)
    have V17 : AV Z h17 b15 .double (3 : Int32) [(.double (FP.l2d (p2.toInt64))), (.double (FP.l2d (p3.toInt64))), (.double (0 : UInt64))] := AV.set A17 S17 Nl17 M17 W17
    have K17 : Keep h0 h17 [] := K16.wr W17 (Or.inr sz_b15)
    have N17 := Fr.snoc X17 N16 g_b15
    obtain ⟨cl18, A18, S18, Nl18, M18⟩ := id V17
    have hin18 : ¬ ((2 : Int32) < 0 ∨ cl18.slots.size ≤ ((2 : Int32)).toNatClampNeg) := AV.inb S18 Nl18 ⟨by decide, by decide⟩
    obtain ⟨T18, h18, X18, e18, W18, st18⟩ := stD X17 hx hZ e17 A18 (j := (2 : Int32)) hin18 (g := (mkF m 53 #[.val (.int p1), .val (.int p2), .val (.int p3), .val (.int p4), .val (.int p5), .val (.int (3 : Int32)), .val (.ref b15), .val (.long ((p2.toInt64) + (p3.toInt64))), .second, .unset, .unset, .unset, .unset] [(.double (FP.l2d (p4.toInt64))), (.int (2 : Int32)), (.ref b15)])) rfl rfl (hb hby at_53)
    have V18 : AV Z h18 b15 .double (3 : Int32) [(.double (FP.l2d (p2.toInt64))), (.double (FP.l2d (p3.toInt64))), (.double (FP.l2d (p4.toInt64)))] := AV.set A18 S18 Nl18 M18 W18
    have K18 : Keep h0 h18 [] := K17.wr W18 (Or.inr sz_b15)
    have N18 := Fr.snoc X18 N17 g_b15
    obtain ⟨_, _, ⟨T19, L19, k19, n19⟩, -, X19, ⟨Lc19, hQ19, l19, y19, z19⟩, st19⟩ := Jvm.LawKit.callS X18 hx (y := (⟨"com/example/byeonhwa/byeonhwa/WelchTest", "mean", "([D)D"⟩ : MethodName)) hown (mvT hZ (hw _ (List.mem_of_getElem? (i := 1) rfl))) (mvT hZ (hw _ (List.mem_of_getElem? (i := 2) rfl))) (mvT hZ (hw _ (List.mem_of_getElem? (i := 3) rfl))) (mvT hZ (hw _ (List.mem_of_getElem? (i := 4) rfl))) (by decide) (backOf (W := 0) (rm1n3 l Z a0 hw [] b15 (p2.toInt64) (p3.toInt64) (p4.toInt64) h18 n0 (Nat.le_trans Z0 K18.1) V18 (own_b31 _) (own_b31 _) (own_b31 _)) hZ (hw _ (List.mem_of_getElem? (i := 4) rfl)) (hw _ (List.mem_of_getElem? (i := 3) rfl)) (by decide) (by decide)) (g := (mkF m 93 #[.val (.int p1), .val (.int p2), .val (.int p3), .val (.int p4), .val (.int p5), .val (.int (3 : Int32)), .val (.ref b15), .val (.long (((p2.toInt64) + (p3.toInt64)) + (p4.toInt64))), .second, .val (.double (FP.ddiv (FP.l2d (((p2.toInt64) + (p3.toInt64)) + (p4.toInt64))) (FP.l2d (3 : Int64)))), .second, .unset, .unset] [(.ref b15)])) rfl (by rw [hml]; rfl) (argsL := [(.ref b15)]) (rest := []) (lenOf pd_0 rfl) rfl (by show 2 * 0 + _ ≤ _; exact Nat.le_of_eq rfl) (hb hby at_93) (fun _ _ => ⟨rfl, e18, (by decide : 1 + 0 ≤ _), (by decide : 3 + 0 ≤ _)⟩)
    dsimp only [Pt.U, Pt.locs, Pt.cells, Pt.slots] at X19 l19 y19 z19 st19 hQ19
    subst l19 y19 z19
    obtain ⟨rfl, N19q, e19⟩ := hQ19
    have N19 := Fr.app N18 N19q
    obtain ⟨fs, hr, hrun, hended, hW, hsame⟩ := X19.leave (v := some (.int (1 : Int32))) (fun h => by rw [Bd.returns] at h; cases h)
    refine ⟨_, _, pre14 _ ?_, hrun, hended, _, _, rfl, ?_, ⟨_, rfl⟩, hW, hsame.mono (by decide) (by decide)⟩
    · show Steps p.tables e below (s₁.setTop (mkF m 3 #[.val (.int p1), .val (.int p2), .val (.int p3), .val (.int p4), .val (.int p5), .unset, .unset, .unset, .unset, .unset, .unset, .unset, .unset] [(.int (2 : Int32))])) _
      refine XS.iconst X0.here hx rfl (hb hby at_3) ?_
      show Steps p.tables e below (s₁.setTop (mkF m 4 #[.val (.int p1), .val (.int p2), .val (.int p3), .val (.int p4), .val (.int p5), .unset, .unset, .unset, .unset, .unset, .unset, .unset, .unset] [(.int (1 : Int32)), (.int (2 : Int32))])) _
      refine XS.iadd X0.here hx rfl (hb hby at_4) rfl ?_
      show Steps p.tables e below (s₁.setTop (mkF m 5 #[.val (.int p1), .val (.int p2), .val (.int p3), .val (.int p4), .val (.int p5), .unset, .unset, .unset, .unset, .unset, .unset, .unset, .unset] [(.int (3 : Int32))])) _
      refine XS.istore X0.here hx rfl (hb hby at_5) rfl (l' := #[.val (.int p1), .val (.int p2), .val (.int p3), .val (.int p4), .val (.int p5), .val (.int (3 : Int32)), .unset, .unset, .unset, .unset, .unset, .unset, .unset]) rfl ?_
      show Steps p.tables e below (s₁.setTop (mkF m 7 #[.val (.int p1), .val (.int p2), .val (.int p3), .val (.int p4), .val (.int p5), .val (.int (3 : Int32)), .unset, .unset, .unset, .unset, .unset, .unset, .unset] [])) _
      refine XS.iload X0.here hx rfl (hb hby at_7) rfl ?_
      show Steps p.tables e below (s₁.setTop (mkF m 9 #[.val (.int p1), .val (.int p2), .val (.int p3), .val (.int p4), .val (.int p5), .val (.int (3 : Int32)), .unset, .unset, .unset, .unset, .unset, .unset, .unset] [(.int (3 : Int32))])) _
      refine st15 _ ?_
      show Steps p.tables e below (T15.setTop (mkF m 11 #[.val (.int p1), .val (.int p2), .val (.int p3), .val (.int p4), .val (.int p5), .val (.int (3 : Int32)), .unset, .unset, .unset, .unset, .unset, .unset, .unset] [(.ref b15)])) _
      refine XS.astore X15.here hx rfl (hb hby at_11) rfl rfl (l' := #[.val (.int p1), .val (.int p2), .val (.int p3), .val (.int p4), .val (.int p5), .val (.int (3 : Int32)), .val (.ref b15), .unset, .unset, .unset, .unset, .unset, .unset]) rfl ?_
      show Steps p.tables e below (T15.setTop (mkF m 13 #[.val (.int p1), .val (.int p2), .val (.int p3), .val (.int p4), .val (.int p5), .val (.int (3 : Int32)), .val (.ref b15), .unset, .unset, .unset, .unset, .unset, .unset] [])) _
      refine XS.iloadN X15.here hx rfl (hb hby at_13) rfl ?_
      show Steps p.tables e below (T15.setTop (mkF m 14 #[.val (.int p1), .val (.int p2), .val (.int p3), .val (.int p4), .val (.int p5), .val (.int (3 : Int32)), .val (.ref b15), .unset, .unset, .unset, .unset, .unset, .unset] [(.int p2)])) _
      refine XS.i2l X15.here hx rfl (hb hby at_14) rfl ?_
      show Steps p.tables e below (T15.setTop (mkF m 15 #[.val (.int p1), .val (.int p2), .val (.int p3), .val (.int p4), .val (.int p5), .val (.int (3 : Int32)), .val (.ref b15), .unset, .unset, .unset, .unset, .unset, .unset] [(.long (p2.toInt64))])) _
      refine XS.lstore X15.here hx rfl (hb hby at_15) rfl (l' := #[.val (.int p1), .val (.int p2), .val (.int p3), .val (.int p4), .val (.int p5), .val (.int (3 : Int32)), .val (.ref b15), .val (.long (p2.toInt64)), .second, .unset, .unset, .unset, .unset]) rfl ?_
      show Steps p.tables e below (T15.setTop (mkF m 17 #[.val (.int p1), .val (.int p2), .val (.int p3), .val (.int p4), .val (.int p5), .val (.int (3 : Int32)), .val (.ref b15), .val (.long (p2.toInt64)), .second, .unset, .unset, .unset, .unset] [])) _
      refine XS.aload X15.here hx rfl (hb hby at_17) rfl rfl ?_
      show Steps p.tables e below (T15.setTop (mkF m 19 #[.val (.int p1), .val (.int p2), .val (.int p3), .val (.int p4), .val (.int p5), .val (.int (3 : Int32)), .val (.ref b15), .val (.long (p2.toInt64)), .second, .unset, .unset, .unset, .unset] [(.ref b15)])) _
      refine XS.iconst X15.here hx rfl (hb hby at_19) ?_
      show Steps p.tables e below (T15.setTop (mkF m 20 #[.val (.int p1), .val (.int p2), .val (.int p3), .val (.int p4), .val (.int p5), .val (.int (3 : Int32)), .val (.ref b15), .val (.long (p2.toInt64)), .second, .unset, .unset, .unset, .unset] [(.int (0 : Int32)), (.ref b15)])) _
      refine XS.iloadN X15.here hx rfl (hb hby at_20) rfl ?_
      show Steps p.tables e below (T15.setTop (mkF m 21 #[.val (.int p1), .val (.int p2), .val (.int p3), .val (.int p4), .val (.int p5), .val (.int (3 : Int32)), .val (.ref b15), .val (.long (p2.toInt64)), .second, .unset, .unset, .unset, .unset] [(.int p2), (.int (0 : Int32)), (.ref b15)])) _
      refine XS.i2dS X15.here hx rfl (v := (FP.l2d (p2.toInt64))) (hb hby at_21) rfl (i2d_w _) ?_
      show Steps p.tables e below (T15.setTop (mkF m 22 #[.val (.int p1), .val (.int p2), .val (.int p3), .val (.int p4), .val (.int p5), .val (.int (3 : Int32)), .val (.ref b15), .val (.long (p2.toInt64)), .second, .unset, .unset, .unset, .unset] [(.double (FP.l2d (p2.toInt64))), (.int (0 : Int32)), (.ref b15)])) _
      refine st16 _ ?_
      show Steps p.tables e below (T16.setTop (mkF m 23 #[.val (.int p1), .val (.int p2), .val (.int p3), .val (.int p4), .val (.int p5), .val (.int (3 : Int32)), .val (.ref b15), .val (.long (p2.toInt64)), .second, .unset, .unset, .unset, .unset] [])) _
      refine XS.iload X16.here hx rfl (hb hby at_23) rfl ?_
      show Steps p.tables e below (T16.setTop (mkF m 25 #[.val (.int p1), .val (.int p2), .val (.int p3), .val (.int p4), .val (.int p5), .val (.int (3 : Int32)), .val (.ref b15), .val (.long (p2.toInt64)), .second, .unset, .unset, .unset, .unset] [(.int (3 : Int32))])) _
      refine XS.iconst X16.here hx rfl (hb hby at_25) ?_
      show Steps p.tables e below (T16.setTop (mkF m 26 #[.val (.int p1), .val (.int p2), .val (.int p3), .val (.int p4), .val (.int p5), .val (.int (3 : Int32)), .val (.ref b15), .val (.long (p2.toInt64)), .second, .unset, .unset, .unset, .unset] [(.int (1 : Int32)), (.int (3 : Int32))])) _
      refine XS.icmpNo X16.here hx rfl (hb hby at_26) rfl (tlt (by decide : (1 : Int32) < (3 : Int32))).2.2.2 ?_
      show Steps p.tables e below (T16.setTop (mkF m 29 #[.val (.int p1), .val (.int p2), .val (.int p3), .val (.int p4), .val (.int p5), .val (.int (3 : Int32)), .val (.ref b15), .val (.long (p2.toInt64)), .second, .unset, .unset, .unset, .unset] [])) _
      refine XS.aload X16.here hx rfl (hb hby at_29) rfl rfl ?_
      show Steps p.tables e below (T16.setTop (mkF m 31 #[.val (.int p1), .val (.int p2), .val (.int p3), .val (.int p4), .val (.int p5), .val (.int (3 : Int32)), .val (.ref b15), .val (.long (p2.toInt64)), .second, .unset, .unset, .unset, .unset] [(.ref b15)])) _
      refine XS.iconst X16.here hx rfl (hb hby at_31) ?_
      show Steps p.tables e below (T16.setTop (mkF m 32 #[.val (.int p1), .val (.int p2), .val (.int p3), .val (.int p4), .val (.int p5), .val (.int (3 : Int32)), .val (.ref b15), .val (.long (p2.toInt64)), .second, .unset, .unset, .unset, .unset] [(.int (1 : Int32)), (.ref b15)])) _
      refine XS.iloadN X16.here hx rfl (hb hby at_32) rfl ?_
      show Steps p.tables e below (T16.setTop (mkF m 33 #[.val (.int p1), .val (.int p2), .val (.int p3), .val (.int p4), .val (.int p5), .val (.int (3 : Int32)), .val (.ref b15), .val (.long (p2.toInt64)), .second, .unset, .unset, .unset, .unset] [(.int p3), (.int (1 : Int32)), (.ref b15)])) _
      refine XS.i2dS X16.here hx rfl (v := (FP.l2d (p3.toInt64))) (hb hby at_33) rfl (i2d_w _) ?_
      show Steps p.tables e below (T16.setTop (mkF m 34 #[.val (.int p1), .val (.int p2), .val (.int p3), .val (.int p4), .val (.int p5), .val (.int (3 : Int32)), .val (.ref b15), .val (.long (p2.toInt64)), .second, .unset, .unset, .unset, .unset] [(.double (FP.l2d (p3.toInt64))), (.int (1 : Int32)), (.ref b15)])) _
      refine st17 _ ?_
      show Steps p.tables e below (T17.setTop (mkF m 35 #[.val (.int p1), .val (.int p2), .val (.int p3), .val (.int p4), .val (.int p5), .val (.int (3 : Int32)), .val (.ref b15), .val (.long (p2.toInt64)), .second, .unset, .unset, .unset, .unset] [])) _
      refine XS.lload X17.here hx rfl (hb hby at_35) rfl ?_
      show Steps p.tables e below (T17.setTop (mkF m 37 #[.val (.int p1), .val (.int p2), .val (.int p3), .val (.int p4), .val (.int p5), .val (.int (3 : Int32)), .val (.ref b15), .val (.long (p2.toInt64)), .second, .unset, .unset, .unset, .unset] [(.long (p2.toInt64))])) _
      refine XS.iloadN X17.here hx rfl (hb hby at_37) rfl ?_
      show Steps p.tables e below (T17.setTop (mkF m 38 #[.val (.int p1), .val (.int p2), .val (.int p3), .val (.int p4), .val (.int p5), .val (.int (3 : Int32)), .val (.ref b15), .val (.long (p2.toInt64)), .second, .unset, .unset, .unset, .unset] [(.int p3), (.long (p2.toInt64))])) _
      refine XS.i2l X17.here hx rfl (hb hby at_38) rfl ?_
      show Steps p.tables e below (T17.setTop (mkF m 39 #[.val (.int p1), .val (.int p2), .val (.int p3), .val (.int p4), .val (.int p5), .val (.int (3 : Int32)), .val (.ref b15), .val (.long (p2.toInt64)), .second, .unset, .unset, .unset, .unset] [(.long (p3.toInt64)), (.long (p2.toInt64))])) _
      refine XS.ladd X17.here hx rfl (hb hby at_39) rfl ?_
      show Steps p.tables e below (T17.setTop (mkF m 40 #[.val (.int p1), .val (.int p2), .val (.int p3), .val (.int p4), .val (.int p5), .val (.int (3 : Int32)), .val (.ref b15), .val (.long (p2.toInt64)), .second, .unset, .unset, .unset, .unset] [(.long ((p2.toInt64) + (p3.toInt64)))])) _
      refine XS.lstore X17.here hx rfl (hb hby at_40) rfl (l' := #[.val (.int p1), .val (.int p2), .val (.int p3), .val (.int p4), .val (.int p5), .val (.int (3 : Int32)), .val (.ref b15), .val (.long ((p2.toInt64) + (p3.toInt64))), .second, .unset, .unset, .unset, .unset]) rfl ?_
      show Steps p.tables e below (T17.setTop (mkF m 42 #[.val (.int p1), .val (.int p2), .val (.int p3), .val (.int p4), .val (.int p5), .val (.int (3 : Int32)), .val (.ref b15), .val (.long ((p2.toInt64) + (p3.toInt64))), .second, .unset, .unset, .unset, .unset] [])) _
      refine XS.iload X17.here hx rfl (hb hby at_42) rfl ?_
      show Steps p.tables e below (T17.setTop (mkF m 44 #[.val (.int p1), .val (.int p2), .val (.int p3), .val (.int p4), .val (.int p5), .val (.int (3 : Int32)), .val (.ref b15), .val (.long ((p2.toInt64) + (p3.toInt64))), .second, .unset, .unset, .unset, .unset] [(.int (3 : Int32))])) _
      refine XS.iconst X17.here hx rfl (hb hby at_44) ?_
      show Steps p.tables e below (T17.setTop (mkF m 45 #[.val (.int p1), .val (.int p2), .val (.int p3), .val (.int p4), .val (.int p5), .val (.int (3 : Int32)), .val (.ref b15), .val (.long ((p2.toInt64) + (p3.toInt64))), .second, .unset, .unset, .unset, .unset] [(.int (2 : Int32)), (.int (3 : Int32))])) _
      refine XS.icmpNo X17.here hx rfl (hb hby at_45) rfl (tlt (by decide : (2 : Int32) < (3 : Int32))).2.2.2 ?_
      show Steps p.tables e below (T17.setTop (mkF m 48 #[.val (.int p1), .val (.int p2), .val (.int p3), .val (.int p4), .val (.int p5), .val (.int (3 : Int32)), .val (.ref b15), .val (.long ((p2.toInt64) + (p3.toInt64))), .second, .unset, .unset, .unset, .unset] [])) _
      refine XS.aload X17.here hx rfl (hb hby at_48) rfl rfl ?_
      show Steps p.tables e below (T17.setTop (mkF m 50 #[.val (.int p1), .val (.int p2), .val (.int p3), .val (.int p4), .val (.int p5), .val (.int (3 : Int32)), .val (.ref b15), .val (.long ((p2.toInt64) + (p3.toInt64))), .second, .unset, .unset, .unset, .unset] [(.ref b15)])) _
      refine XS.iconst X17.here hx rfl (hb hby at_50) ?_
      show Steps p.tables e below (T17.setTop (mkF m 51 #[.val (.int p1), .val (.int p2), .val (.int p3), .val (.int p4), .val (.int p5), .val (.int (3 : Int32)), .val (.ref b15), .val (.long ((p2.toInt64) + (p3.toInt64))), .second, .unset, .unset, .unset, .unset] [(.int (2 : Int32)), (.ref b15)])) _
      refine XS.iloadN X17.here hx rfl (hb hby at_51) rfl ?_
      show Steps p.tables e below (T17.setTop (mkF m 52 #[.val (.int p1), .val (.int p2), .val (.int p3), .val (.int p4), .val (.int p5), .val (.int (3 : Int32)), .val (.ref b15), .val (.long ((p2.toInt64) + (p3.toInt64))), .second, .unset, .unset, .unset, .unset] [(.int p4), (.int (2 : Int32)), (.ref b15)])) _
      refine XS.i2dS X17.here hx rfl (v := (FP.l2d (p4.toInt64))) (hb hby at_52) rfl (i2d_w _) ?_
      show Steps p.tables e below (T17.setTop (mkF m 53 #[.val (.int p1), .val (.int p2), .val (.int p3), .val (.int p4), .val (.int p5), .val (.int (3 : Int32)), .val (.ref b15), .val (.long ((p2.toInt64) + (p3.toInt64))), .second, .unset, .unset, .unset, .unset] [(.double (FP.l2d (p4.toInt64))), (.int (2 : Int32)), (.ref b15)])) _
      refine st18 _ ?_
      show Steps p.tables e below (T18.setTop (mkF m 54 #[.val (.int p1), .val (.int p2), .val (.int p3), .val (.int p4), .val (.int p5), .val (.int (3 : Int32)), .val (.ref b15), .val (.long ((p2.toInt64) + (p3.toInt64))), .second, .unset, .unset, .unset, .unset] [])) _
      refine XS.lload X18.here hx rfl (hb hby at_54) rfl ?_
      show Steps p.tables e below (T18.setTop (mkF m 56 #[.val (.int p1), .val (.int p2), .val (.int p3), .val (.int p4), .val (.int p5), .val (.int (3 : Int32)), .val (.ref b15), .val (.long ((p2.toInt64) + (p3.toInt64))), .second, .unset, .unset, .unset, .unset] [(.long ((p2.toInt64) + (p3.toInt64)))])) _
      refine XS.iloadN X18.here hx rfl (hb hby at_56) rfl ?_
      show Steps p.tables e below (T18.setTop (mkF m 57 #[.val (.int p1), .val (.int p2), .val (.int p3), .val (.int p4), .val (.int p5), .val (.int (3 : Int32)), .val (.ref b15), .val (.long ((p2.toInt64) + (p3.toInt64))), .second, .unset, .unset, .unset, .unset] [(.int p4), (.long ((p2.toInt64) + (p3.toInt64)))])) _
      refine XS.i2l X18.here hx rfl (hb hby at_57) rfl ?_
      show Steps p.tables e below (T18.setTop (mkF m 58 #[.val (.int p1), .val (.int p2), .val (.int p3), .val (.int p4), .val (.int p5), .val (.int (3 : Int32)), .val (.ref b15), .val (.long ((p2.toInt64) + (p3.toInt64))), .second, .unset, .unset, .unset, .unset] [(.long (p4.toInt64)), (.long ((p2.toInt64) + (p3.toInt64)))])) _
      refine XS.ladd X18.here hx rfl (hb hby at_58) rfl ?_
      show Steps p.tables e below (T18.setTop (mkF m 59 #[.val (.int p1), .val (.int p2), .val (.int p3), .val (.int p4), .val (.int p5), .val (.int (3 : Int32)), .val (.ref b15), .val (.long ((p2.toInt64) + (p3.toInt64))), .second, .unset, .unset, .unset, .unset] [(.long (((p2.toInt64) + (p3.toInt64)) + (p4.toInt64)))])) _
      refine XS.lstore X18.here hx rfl (hb hby at_59) rfl (l' := #[.val (.int p1), .val (.int p2), .val (.int p3), .val (.int p4), .val (.int p5), .val (.int (3 : Int32)), .val (.ref b15), .val (.long (((p2.toInt64) + (p3.toInt64)) + (p4.toInt64))), .second, .unset, .unset, .unset, .unset]) rfl ?_
      show Steps p.tables e below (T18.setTop (mkF m 61 #[.val (.int p1), .val (.int p2), .val (.int p3), .val (.int p4), .val (.int p5), .val (.int (3 : Int32)), .val (.ref b15), .val (.long (((p2.toInt64) + (p3.toInt64)) + (p4.toInt64))), .second, .unset, .unset, .unset, .unset] [])) _
      refine XS.iload X18.here hx rfl (hb hby at_61) rfl ?_
      show Steps p.tables e below (T18.setTop (mkF m 63 #[.val (.int p1), .val (.int p2), .val (.int p3), .val (.int p4), .val (.int p5), .val (.int (3 : Int32)), .val (.ref b15), .val (.long (((p2.toInt64) + (p3.toInt64)) + (p4.toInt64))), .second, .unset, .unset, .unset, .unset] [(.int (3 : Int32))])) _
      refine XS.iconst X18.here hx rfl (hb hby at_63) ?_
      show Steps p.tables e below (T18.setTop (mkF m 64 #[.val (.int p1), .val (.int p2), .val (.int p3), .val (.int p4), .val (.int p5), .val (.int (3 : Int32)), .val (.ref b15), .val (.long (((p2.toInt64) + (p3.toInt64)) + (p4.toInt64))), .second, .unset, .unset, .unset, .unset] [(.int (3 : Int32)), (.int (3 : Int32))])) _
      refine XS.icmpYes X18.here hx rfl (pc0 := 64) (pc' := 82) rfl (hb hby at_64) rfl (flt (by decide : ¬ ((3 : Int32) < (3 : Int32)))).2.2.2 (by decide) (by decide) ?_
      show Steps p.tables e below (T18.setTop (mkF m 82 #[.val (.int p1), .val (.int p2), .val (.int p3), .val (.int p4), .val (.int p5), .val (.int (3 : Int32)), .val (.ref b15), .val (.long (((p2.toInt64) + (p3.toInt64)) + (p4.toInt64))), .second, .unset, .unset, .unset, .unset] [])) _
      refine XS.lload X18.here hx rfl (hb hby at_82) rfl ?_
      show Steps p.tables e below (T18.setTop (mkF m 84 #[.val (.int p1), .val (.int p2), .val (.int p3), .val (.int p4), .val (.int p5), .val (.int (3 : Int32)), .val (.ref b15), .val (.long (((p2.toInt64) + (p3.toInt64)) + (p4.toInt64))), .second, .unset, .unset, .unset, .unset] [(.long (((p2.toInt64) + (p3.toInt64)) + (p4.toInt64)))])) _
      refine XS.l2dS X18.here hx rfl (v := (FP.l2d (((p2.toInt64) + (p3.toInt64)) + (p4.toInt64)))) (hb hby at_84) rfl rfl ?_
      show Steps p.tables e below (T18.setTop (mkF m 85 #[.val (.int p1), .val (.int p2), .val (.int p3), .val (.int p4), .val (.int p5), .val (.int (3 : Int32)), .val (.ref b15), .val (.long (((p2.toInt64) + (p3.toInt64)) + (p4.toInt64))), .second, .unset, .unset, .unset, .unset] [(.double (FP.l2d (((p2.toInt64) + (p3.toInt64)) + (p4.toInt64))))])) _
      refine XS.iload X18.here hx rfl (hb hby at_85) rfl ?_
      show Steps p.tables e below (T18.setTop (mkF m 87 #[.val (.int p1), .val (.int p2), .val (.int p3), .val (.int p4), .val (.int p5), .val (.int (3 : Int32)), .val (.ref b15), .val (.long (((p2.toInt64) + (p3.toInt64)) + (p4.toInt64))), .second, .unset, .unset, .unset, .unset] [(.int (3 : Int32)), (.double (FP.l2d (((p2.toInt64) + (p3.toInt64)) + (p4.toInt64))))])) _
      refine XS.i2dS X18.here hx rfl (v := (FP.l2d (3 : Int64))) (hb hby at_87) rfl (i2d_w _) ?_
      show Steps p.tables e below (T18.setTop (mkF m 88 #[.val (.int p1), .val (.int p2), .val (.int p3), .val (.int p4), .val (.int p5), .val (.int (3 : Int32)), .val (.ref b15), .val (.long (((p2.toInt64) + (p3.toInt64)) + (p4.toInt64))), .second, .unset, .unset, .unset, .unset] [(.double (FP.l2d (3 : Int64))), (.double (FP.l2d (((p2.toInt64) + (p3.toInt64)) + (p4.toInt64))))])) _
      refine XS.ddivS X18.here hx rfl (v := (FP.ddiv (FP.l2d (((p2.toInt64) + (p3.toInt64)) + (p4.toInt64))) (FP.l2d (3 : Int64)))) (hb hby at_88) rfl (own_nn (by decide)) rfl ?_
      show Steps p.tables e below (T18.setTop (mkF m 89 #[.val (.int p1), .val (.int p2), .val (.int p3), .val (.int p4), .val (.int p5), .val (.int (3 : Int32)), .val (.ref b15), .val (.long (((p2.toInt64) + (p3.toInt64)) + (p4.toInt64))), .second, .unset, .unset, .unset, .unset] [(.double (FP.ddiv (FP.l2d (((p2.toInt64) + (p3.toInt64)) + (p4.toInt64))) (FP.l2d (3 : Int64))))])) _
      refine XS.dstore X18.here hx rfl (hb hby at_89) rfl (l' := #[.val (.int p1), .val (.int p2), .val (.int p3), .val (.int p4), .val (.int p5), .val (.int (3 : Int32)), .val (.ref b15), .val (.long (((p2.toInt64) + (p3.toInt64)) + (p4.toInt64))), .second, .val (.double (FP.ddiv (FP.l2d (((p2.toInt64) + (p3.toInt64)) + (p4.toInt64))) (FP.l2d (3 : Int64)))), .second, .unset, .unset]) rfl ?_
      show Steps p.tables e below (T18.setTop (mkF m 91 #[.val (.int p1), .val (.int p2), .val (.int p3), .val (.int p4), .val (.int p5), .val (.int (3 : Int32)), .val (.ref b15), .val (.long (((p2.toInt64) + (p3.toInt64)) + (p4.toInt64))), .second, .val (.double (FP.ddiv (FP.l2d (((p2.toInt64) + (p3.toInt64)) + (p4.toInt64))) (FP.l2d (3 : Int64)))), .second, .unset, .unset] [])) _
      refine XS.aload X18.here hx rfl (hb hby at_91) rfl rfl ?_
      show Steps p.tables e below (T18.setTop (mkF m 93 #[.val (.int p1), .val (.int p2), .val (.int p3), .val (.int p4), .val (.int p5), .val (.int (3 : Int32)), .val (.ref b15), .val (.long (((p2.toInt64) + (p3.toInt64)) + (p4.toInt64))), .second, .val (.double (FP.ddiv (FP.l2d (((p2.toInt64) + (p3.toInt64)) + (p4.toInt64))) (FP.l2d (3 : Int64)))), .second, .unset, .unset] [(.ref b15)])) _
      refine st19 _ ?_
      show Steps p.tables e below (T19.setTop (mkF m 96 #[.val (.int p1), .val (.int p2), .val (.int p3), .val (.int p4), .val (.int p5), .val (.int (3 : Int32)), .val (.ref b15), .val (.long (((p2.toInt64) + (p3.toInt64)) + (p4.toInt64))), .second, .val (.double (FP.ddiv (FP.l2d (((p2.toInt64) + (p3.toInt64)) + (p4.toInt64))) (FP.l2d (3 : Int64)))), .second, .unset, .unset] [(.double (FP.ddiv (FP.l2d ((((0 : Int64) + (p2.toInt64)) + (p3.toInt64)) + (p4.toInt64))) (FP.l2d (3 : Int64))))])) _
      refine XS.dstore X19.here hx rfl (hb hby at_96) rfl (l' := #[.val (.int p1), .val (.int p2), .val (.int p3), .val (.int p4), .val (.int p5), .val (.int (3 : Int32)), .val (.ref b15), .val (.long (((p2.toInt64) + (p3.toInt64)) + (p4.toInt64))), .second, .val (.double (FP.ddiv (FP.l2d (((p2.toInt64) + (p3.toInt64)) + (p4.toInt64))) (FP.l2d (3 : Int64)))), .second, .val (.double (FP.ddiv (FP.l2d ((((0 : Int64) + (p2.toInt64)) + (p3.toInt64)) + (p4.toInt64))) (FP.l2d (3 : Int64)))), .second]) rfl ?_
      show Steps p.tables e below (T19.setTop (mkF m 98 #[.val (.int p1), .val (.int p2), .val (.int p3), .val (.int p4), .val (.int p5), .val (.int (3 : Int32)), .val (.ref b15), .val (.long (((p2.toInt64) + (p3.toInt64)) + (p4.toInt64))), .second, .val (.double (FP.ddiv (FP.l2d (((p2.toInt64) + (p3.toInt64)) + (p4.toInt64))) (FP.l2d (3 : Int64)))), .second, .val (.double (FP.ddiv (FP.l2d ((((0 : Int64) + (p2.toInt64)) + (p3.toInt64)) + (p4.toInt64))) (FP.l2d (3 : Int64)))), .second] [])) _
      refine XS.dload X19.here hx rfl (hb hby at_98) rfl ?_
      show Steps p.tables e below (T19.setTop (mkF m 100 #[.val (.int p1), .val (.int p2), .val (.int p3), .val (.int p4), .val (.int p5), .val (.int (3 : Int32)), .val (.ref b15), .val (.long (((p2.toInt64) + (p3.toInt64)) + (p4.toInt64))), .second, .val (.double (FP.ddiv (FP.l2d (((p2.toInt64) + (p3.toInt64)) + (p4.toInt64))) (FP.l2d (3 : Int64)))), .second, .val (.double (FP.ddiv (FP.l2d ((((0 : Int64) + (p2.toInt64)) + (p3.toInt64)) + (p4.toInt64))) (FP.l2d (3 : Int64)))), .second] [(.double (FP.ddiv (FP.l2d ((((0 : Int64) + (p2.toInt64)) + (p3.toInt64)) + (p4.toInt64))) (FP.l2d (3 : Int64))))])) _
      refine XS.dload X19.here hx rfl (hb hby at_100) rfl ?_
      show Steps p.tables e below (T19.setTop (mkF m 102 #[.val (.int p1), .val (.int p2), .val (.int p3), .val (.int p4), .val (.int p5), .val (.int (3 : Int32)), .val (.ref b15), .val (.long (((p2.toInt64) + (p3.toInt64)) + (p4.toInt64))), .second, .val (.double (FP.ddiv (FP.l2d (((p2.toInt64) + (p3.toInt64)) + (p4.toInt64))) (FP.l2d (3 : Int64)))), .second, .val (.double (FP.ddiv (FP.l2d ((((0 : Int64) + (p2.toInt64)) + (p3.toInt64)) + (p4.toInt64))) (FP.l2d (3 : Int64)))), .second] [(.double (FP.ddiv (FP.l2d (((p2.toInt64) + (p3.toInt64)) + (p4.toInt64))) (FP.l2d (3 : Int64)))), (.double (FP.ddiv (FP.l2d ((((0 : Int64) + (p2.toInt64)) + (p3.toInt64)) + (p4.toInt64))) (FP.l2d (3 : Int64))))])) _
      refine XS.dcmpS X19.here hx rfl (v := (0 : Int32)) (hb hby at_102) rfl (dcmpV_eq (by simp only [Int64.zero_add]) (own_nn (by decide)) _) ?_
      show Steps p.tables e below (T19.setTop (mkF m 103 #[.val (.int p1), .val (.int p2), .val (.int p3), .val (.int p4), .val (.int p5), .val (.int (3 : Int32)), .val (.ref b15), .val (.long (((p2.toInt64) + (p3.toInt64)) + (p4.toInt64))), .second, .val (.double (FP.ddiv (FP.l2d (((p2.toInt64) + (p3.toInt64)) + (p4.toInt64))) (FP.l2d (3 : Int64)))), .second, .val (.double (FP.ddiv (FP.l2d ((((0 : Int64) + (p2.toInt64)) + (p3.toInt64)) + (p4.toInt64))) (FP.l2d (3 : Int64)))), .second] [(.int (0 : Int32))])) _
      refine XS.ifNo X19.here hx rfl (hb hby at_103) rfl ((if0 _ _).trans (teq (rfl : (0 : Int32) = (0 : Int32))).2) ?_
      show Steps p.tables e below (T19.setTop (mkF m 106 #[.val (.int p1), .val (.int p2), .val (.int p3), .val (.int p4), .val (.int p5), .val (.int (3 : Int32)), .val (.ref b15), .val (.long (((p2.toInt64) + (p3.toInt64)) + (p4.toInt64))), .second, .val (.double (FP.ddiv (FP.l2d (((p2.toInt64) + (p3.toInt64)) + (p4.toInt64))) (FP.l2d (3 : Int64)))), .second, .val (.double (FP.ddiv (FP.l2d ((((0 : Int64) + (p2.toInt64)) + (p3.toInt64)) + (p4.toInt64))) (FP.l2d (3 : Int64)))), .second] [])) _
      refine XS.iconst X19.here hx rfl (hb hby at_106) ?_
      show Steps p.tables e below (T19.setTop (mkF m 107 #[.val (.int p1), .val (.int p2), .val (.int p3), .val (.int p4), .val (.int p5), .val (.int (3 : Int32)), .val (.ref b15), .val (.long (((p2.toInt64) + (p3.toInt64)) + (p4.toInt64))), .second, .val (.double (FP.ddiv (FP.l2d (((p2.toInt64) + (p3.toInt64)) + (p4.toInt64))) (FP.l2d (3 : Int64)))), .second, .val (.double (FP.ddiv (FP.l2d ((((0 : Int64) + (p2.toInt64)) + (p3.toInt64)) + (p4.toInt64))) (FP.l2d (3 : Int64)))), .second] [(.int (1 : Int32))])) _
      refine XS.goto X19.here hx rfl (pc0 := 107) (pc' := 111) rfl (hb hby at_107) (by decide) (by decide) ?_
      show Steps p.tables e below (T19.setTop (mkF m 111 #[.val (.int p1), .val (.int p2), .val (.int p3), .val (.int p4), .val (.int p5), .val (.int (3 : Int32)), .val (.ref b15), .val (.long (((p2.toInt64) + (p3.toInt64)) + (p4.toInt64))), .second, .val (.double (FP.ddiv (FP.l2d (((p2.toInt64) + (p3.toInt64)) + (p4.toInt64))) (FP.l2d (3 : Int64)))), .second, .val (.double (FP.ddiv (FP.l2d ((((0 : Int64) + (p2.toInt64)) + (p3.toInt64)) + (p4.toInt64))) (FP.l2d (3 : Int64)))), .second] [(.int (1 : Int32))])) _
      exact retN X19 hx (t := .boolean) Bd.returns (by simp) (hb hby at_111) hr
    · show Q0 Z p1 p2 p3 p4 p5 h0 n0 _ T19.heap _
      rw [e19]
      exact ⟨rfl, N19⟩
  · have pre21 : ∀ t, Steps p.tables e below (s₁.setTop (mkF m 3 #[.val (.int p1), .val (.int p2), .val (.int p3), .val (.int p4), .val (.int p5), .unset, .unset, .unset, .unset, .unset, .unset, .unset, .unset] [(.int (3 : Int32))])) t → Steps p.tables e below (s₁.setTop (entryFrame m #[(.int p1), (.int p2), (.int p3), (.int p4), (.int p5)] maxLocals)) t := fun t k => pre1 t (by
      show Steps p.tables e below (s₁.setTop (mkF m 3 #[.val (.int p1), .val (.int p2), .val (.int p3), .val (.int p4), .val (.int p5), .unset, .unset, .unset, .unset, .unset, .unset, .unset, .unset] [(.int (p1 &&& (3 : Int32)))])) _
      rw [hk2]
      exact k)
    obtain ⟨T22, h22, k22, X22, e22, E22, A22, st22⟩ := newP X0 hx hZ (hw _ (List.mem_of_getElem? (i := 0) rfl)) e0 (g := (mkF m 9 #[.val (.int p1), .val (.int p2), .val (.int p3), .val (.int p4), .val (.int p5), .val (.int (4 : Int32)), .unset, .unset, .unset, .unset, .unset, .unset, .unset] [(.int (4 : Int32))])) rfl (hb hby at_9) rfl (by decide) (cap := 4) (by decide) (by decide) (by decide) (by decide)
    obtain ⟨b22, g22⟩ : ∃ z, z = h0.size := ⟨_, rfl⟩
    rw [← g22] at A22 st22
    have g_b22 : n0 ≤ b22 := Nat.le_trans Z0 (Nat.le_of_eq g22.symm)
    have sz_b22 : h0.size ≤ b22 := Nat.le_trans (Keep.refl h0 []).1 (Nat.le_of_eq g22.symm)
    have K22 : Keep h0 h22 [] := (Keep.refl h0 []).ext E22
    have V_b22 : AV Z h22 b22 .double (4 : Int32) [(.double (0 : UInt64)), (.double (0 : UInt64)), (.double (0 : UInt64)), (.double (0 : UInt64))] := AV.new A22 (by decide)
    obtain ⟨cl23, A23, S23, Nl23, M23⟩ := id V_b22
    have hin23 : ¬ ((0 : Int32) < 0 ∨ cl23.slots.size ≤ ((0 : Int32)).toNatClampNeg) := AV.inb S23 Nl23 ⟨by decide, by decide⟩
    obtain ⟨T23, h23, X23, e23, W23, st23⟩ := stD X22 hx hZ e22 A23 (j := (0 : Int32)) hin23 (g := (mkF m 22 #[.val (.int p1), .val (.int p2), .val (.int p3), .val (.int p4), .val (.int p5), .val (.int (4 : Int32)), .val (.ref b22), .val (.long (p2.toInt64)), .second, .unset, .unset, .unset, .unset] [(.double (FP.l2d (p2.toInt64))), (.int (0 : Int32)), (.ref b22)])) rfl rfl (hb hby at_22)
    have V23 : AV Z h23 b22 .double (4 : Int32) [(.double (FP.l2d (p2.toInt64))), (.double (0 : UInt64)), (.double (0 : UInt64)), (.double (0 : UInt64))] := AV.set A23 S23 Nl23 M23 W23
    have K23 : Keep h0 h23 [] := K22.wr W23 (Or.inr sz_b22)
    have N23 := Fr.snoc X23 N0 g_b22
    obtain ⟨cl24, A24, S24, Nl24, M24⟩ := id V23
    have hin24 : ¬ ((1 : Int32) < 0 ∨ cl24.slots.size ≤ ((1 : Int32)).toNatClampNeg) := AV.inb S24 Nl24 ⟨by decide, by decide⟩
    obtain ⟨T24, h24, X24, e24, W24, st24⟩ := stD X23 hx hZ e23 A24 (j := (1 : Int32)) hin24 (g := (mkF m 34 #[.val (.int p1), .val (.int p2), .val (.int p3), .val (.int p4), .val (.int p5), .val (.int (4 : Int32)), .val (.ref b22), .val (.long (p2.toInt64)), .second, .unset, .unset, .unset, .unset] [(.double (FP.l2d (p3.toInt64))), (.int (1 : Int32)), (.ref b22)])) rfl rfl (hb hby at_34)
    have V24 : AV Z h24 b22 .double (4 : Int32) [(.double (FP.l2d (p2.toInt64))), (.double (FP.l2d (p3.toInt64))), (.double (0 : UInt64)), (.double (0 : UInt64))] := AV.set A24 S24 Nl24 M24 W24
    have K24 : Keep h0 h24 [] := K23.wr W24 (Or.inr sz_b22)
    have N24 := Fr.snoc X24 N23 g_b22
    obtain ⟨cl25, A25, S25, Nl25, M25⟩ := id V24
    have hin25 : ¬ ((2 : Int32) < 0 ∨ cl25.slots.size ≤ ((2 : Int32)).toNatClampNeg) := AV.inb S25 Nl25 ⟨by decide, by decide⟩
    obtain ⟨T25, h25, X25, e25, W25, st25⟩ := stD X24 hx hZ e24 A25 (j := (2 : Int32)) hin25 (g := (mkF m 53 #[.val (.int p1), .val (.int p2), .val (.int p3), .val (.int p4), .val (.int p5), .val (.int (4 : Int32)), .val (.ref b22), .val (.long ((p2.toInt64) + (p3.toInt64))), .second, .unset, .unset, .unset, .unset] [(.double (FP.l2d (p4.toInt64))), (.int (2 : Int32)), (.ref b22)])) rfl rfl (hb hby at_53)
    have V25 : AV Z h25 b22 .double (4 : Int32) [(.double (FP.l2d (p2.toInt64))), (.double (FP.l2d (p3.toInt64))), (.double (FP.l2d (p4.toInt64))), (.double (0 : UInt64))] := AV.set A25 S25 Nl25 M25 W25
    have K25 : Keep h0 h25 [] := K24.wr W25 (Or.inr sz_b22)
    have N25 := Fr.snoc X25 N24 g_b22
    obtain ⟨cl26, A26, S26, Nl26, M26⟩ := id V25
    have hin26 : ¬ ((3 : Int32) < 0 ∨ cl26.slots.size ≤ ((3 : Int32)).toNatClampNeg) := AV.inb S26 Nl26 ⟨by decide, by decide⟩
    obtain ⟨T26, h26, X26, e26, W26, st26⟩ := stD X25 hx hZ e25 A26 (j := (3 : Int32)) hin26 (g := (mkF m 73 #[.val (.int p1), .val (.int p2), .val (.int p3), .val (.int p4), .val (.int p5), .val (.int (4 : Int32)), .val (.ref b22), .val (.long (((p2.toInt64) + (p3.toInt64)) + (p4.toInt64))), .second, .unset, .unset, .unset, .unset] [(.double (FP.l2d (p5.toInt64))), (.int (3 : Int32)), (.ref b22)])) rfl rfl (hb hby at_73)
    have V26 : AV Z h26 b22 .double (4 : Int32) [(.double (FP.l2d (p2.toInt64))), (.double (FP.l2d (p3.toInt64))), (.double (FP.l2d (p4.toInt64))), (.double (FP.l2d (p5.toInt64)))] := AV.set A26 S26 Nl26 M26 W26
    have K26 : Keep h0 h26 [] := K25.wr W26 (Or.inr sz_b22)
    have N26 := Fr.snoc X26 N25 g_b22
    obtain ⟨_, _, ⟨T27, L27, k27, n27⟩, -, X27, ⟨Lc27, hQ27, l27, y27, z27⟩, st27⟩ := Jvm.LawKit.callS X26 hx (y := (⟨"com/example/byeonhwa/byeonhwa/WelchTest", "mean", "([D)D"⟩ : MethodName)) hown (mvT hZ (hw _ (List.mem_of_getElem? (i := 1) rfl))) (mvT hZ (hw _ (List.mem_of_getElem? (i := 2) rfl))) (mvT hZ (hw _ (List.mem_of_getElem? (i := 3) rfl))) (mvT hZ (hw _ (List.mem_of_getElem? (i := 4) rfl))) (by decide) (backOf (W := 0) (rm1n4 l Z a0 hw [] b22 (p2.toInt64) (p3.toInt64) (p4.toInt64) (p5.toInt64) h26 n0 (Nat.le_trans Z0 K26.1) V26 (own_b31 _) (own_b31 _) (own_b31 _) (own_b31 _)) hZ (hw _ (List.mem_of_getElem? (i := 4) rfl)) (hw _ (List.mem_of_getElem? (i := 3) rfl)) (by decide) (by decide)) (g := (mkF m 93 #[.val (.int p1), .val (.int p2), .val (.int p3), .val (.int p4), .val (.int p5), .val (.int (4 : Int32)), .val (.ref b22), .val (.long ((((p2.toInt64) + (p3.toInt64)) + (p4.toInt64)) + (p5.toInt64))), .second, .val (.double (FP.ddiv (FP.l2d ((((p2.toInt64) + (p3.toInt64)) + (p4.toInt64)) + (p5.toInt64))) (FP.l2d (4 : Int64)))), .second, .unset, .unset] [(.ref b22)])) rfl (by rw [hml]; rfl) (argsL := [(.ref b22)]) (rest := []) (lenOf pd_0 rfl) rfl (by show 2 * 0 + _ ≤ _; exact Nat.le_of_eq rfl) (hb hby at_93) (fun _ _ => ⟨rfl, e26, (by decide : 1 + 0 ≤ _), (by decide : 4 + 0 ≤ _)⟩)
    dsimp only [Pt.U, Pt.locs, Pt.cells, Pt.slots] at X27 l27 y27 z27 st27 hQ27
    subst l27 y27 z27
    obtain ⟨rfl, N27q, e27⟩ := hQ27
    have N27 := Fr.app N26 N27q
    obtain ⟨fs, hr, hrun, hended, hW, hsame⟩ := X27.leave (v := some (.int (1 : Int32))) (fun h => by rw [Bd.returns] at h; cases h)
    refine ⟨_, _, pre21 _ ?_, hrun, hended, _, _, rfl, ?_, ⟨_, rfl⟩, hW, hsame.mono (by decide) (by decide)⟩
    · show Steps p.tables e below (s₁.setTop (mkF m 3 #[.val (.int p1), .val (.int p2), .val (.int p3), .val (.int p4), .val (.int p5), .unset, .unset, .unset, .unset, .unset, .unset, .unset, .unset] [(.int (3 : Int32))])) _
      refine XS.iconst X0.here hx rfl (hb hby at_3) ?_
      show Steps p.tables e below (s₁.setTop (mkF m 4 #[.val (.int p1), .val (.int p2), .val (.int p3), .val (.int p4), .val (.int p5), .unset, .unset, .unset, .unset, .unset, .unset, .unset, .unset] [(.int (1 : Int32)), (.int (3 : Int32))])) _
      refine XS.iadd X0.here hx rfl (hb hby at_4) rfl ?_
      show Steps p.tables e below (s₁.setTop (mkF m 5 #[.val (.int p1), .val (.int p2), .val (.int p3), .val (.int p4), .val (.int p5), .unset, .unset, .unset, .unset, .unset, .unset, .unset, .unset] [(.int (4 : Int32))])) _
      refine XS.istore X0.here hx rfl (hb hby at_5) rfl (l' := #[.val (.int p1), .val (.int p2), .val (.int p3), .val (.int p4), .val (.int p5), .val (.int (4 : Int32)), .unset, .unset, .unset, .unset, .unset, .unset, .unset]) rfl ?_
      show Steps p.tables e below (s₁.setTop (mkF m 7 #[.val (.int p1), .val (.int p2), .val (.int p3), .val (.int p4), .val (.int p5), .val (.int (4 : Int32)), .unset, .unset, .unset, .unset, .unset, .unset, .unset] [])) _
      refine XS.iload X0.here hx rfl (hb hby at_7) rfl ?_
      show Steps p.tables e below (s₁.setTop (mkF m 9 #[.val (.int p1), .val (.int p2), .val (.int p3), .val (.int p4), .val (.int p5), .val (.int (4 : Int32)), .unset, .unset, .unset, .unset, .unset, .unset, .unset] [(.int (4 : Int32))])) _
      refine st22 _ ?_
      show Steps p.tables e below (T22.setTop (mkF m 11 #[.val (.int p1), .val (.int p2), .val (.int p3), .val (.int p4), .val (.int p5), .val (.int (4 : Int32)), .unset, .unset, .unset, .unset, .unset, .unset, .unset] [(.ref b22)])) _
      refine XS.astore X22.here hx rfl (hb hby at_11) rfl rfl (l' := #[.val (.int p1), .val (.int p2), .val (.int p3), .val (.int p4), .val (.int p5), .val (.int (4 : Int32)), .val (.ref b22), .unset, .unset, .unset, .unset, .unset, .unset]) rfl ?_
      show Steps p.tables e below (T22.setTop (mkF m 13 #[.val (.int p1), .val (.int p2), .val (.int p3), .val (.int p4), .val (.int p5), .val (.int (4 : Int32)), .val (.ref b22), .unset, .unset, .unset, .unset, .unset, .unset] [])) _
      refine XS.iloadN X22.here hx rfl (hb hby at_13) rfl ?_
      show Steps p.tables e below (T22.setTop (mkF m 14 #[.val (.int p1), .val (.int p2), .val (.int p3), .val (.int p4), .val (.int p5), .val (.int (4 : Int32)), .val (.ref b22), .unset, .unset, .unset, .unset, .unset, .unset] [(.int p2)])) _
      refine XS.i2l X22.here hx rfl (hb hby at_14) rfl ?_
      show Steps p.tables e below (T22.setTop (mkF m 15 #[.val (.int p1), .val (.int p2), .val (.int p3), .val (.int p4), .val (.int p5), .val (.int (4 : Int32)), .val (.ref b22), .unset, .unset, .unset, .unset, .unset, .unset] [(.long (p2.toInt64))])) _
      refine XS.lstore X22.here hx rfl (hb hby at_15) rfl (l' := #[.val (.int p1), .val (.int p2), .val (.int p3), .val (.int p4), .val (.int p5), .val (.int (4 : Int32)), .val (.ref b22), .val (.long (p2.toInt64)), .second, .unset, .unset, .unset, .unset]) rfl ?_
      show Steps p.tables e below (T22.setTop (mkF m 17 #[.val (.int p1), .val (.int p2), .val (.int p3), .val (.int p4), .val (.int p5), .val (.int (4 : Int32)), .val (.ref b22), .val (.long (p2.toInt64)), .second, .unset, .unset, .unset, .unset] [])) _
      refine XS.aload X22.here hx rfl (hb hby at_17) rfl rfl ?_
      show Steps p.tables e below (T22.setTop (mkF m 19 #[.val (.int p1), .val (.int p2), .val (.int p3), .val (.int p4), .val (.int p5), .val (.int (4 : Int32)), .val (.ref b22), .val (.long (p2.toInt64)), .second, .unset, .unset, .unset, .unset] [(.ref b22)])) _
      refine XS.iconst X22.here hx rfl (hb hby at_19) ?_
      show Steps p.tables e below (T22.setTop (mkF m 20 #[.val (.int p1), .val (.int p2), .val (.int p3), .val (.int p4), .val (.int p5), .val (.int (4 : Int32)), .val (.ref b22), .val (.long (p2.toInt64)), .second, .unset, .unset, .unset, .unset] [(.int (0 : Int32)), (.ref b22)])) _
      refine XS.iloadN X22.here hx rfl (hb hby at_20) rfl ?_
      show Steps p.tables e below (T22.setTop (mkF m 21 #[.val (.int p1), .val (.int p2), .val (.int p3), .val (.int p4), .val (.int p5), .val (.int (4 : Int32)), .val (.ref b22), .val (.long (p2.toInt64)), .second, .unset, .unset, .unset, .unset] [(.int p2), (.int (0 : Int32)), (.ref b22)])) _
      refine XS.i2dS X22.here hx rfl (v := (FP.l2d (p2.toInt64))) (hb hby at_21) rfl (i2d_w _) ?_
      show Steps p.tables e below (T22.setTop (mkF m 22 #[.val (.int p1), .val (.int p2), .val (.int p3), .val (.int p4), .val (.int p5), .val (.int (4 : Int32)), .val (.ref b22), .val (.long (p2.toInt64)), .second, .unset, .unset, .unset, .unset] [(.double (FP.l2d (p2.toInt64))), (.int (0 : Int32)), (.ref b22)])) _
      refine st23 _ ?_
      show Steps p.tables e below (T23.setTop (mkF m 23 #[.val (.int p1), .val (.int p2), .val (.int p3), .val (.int p4), .val (.int p5), .val (.int (4 : Int32)), .val (.ref b22), .val (.long (p2.toInt64)), .second, .unset, .unset, .unset, .unset] [])) _
      refine XS.iload X23.here hx rfl (hb hby at_23) rfl ?_
      show Steps p.tables e below (T23.setTop (mkF m 25 #[.val (.int p1), .val (.int p2), .val (.int p3), .val (.int p4), .val (.int p5), .val (.int (4 : Int32)), .val (.ref b22), .val (.long (p2.toInt64)), .second, .unset, .unset, .unset, .unset] [(.int (4 : Int32))])) _
      refine XS.iconst X23.here hx rfl (hb hby at_25) ?_
      show Steps p.tables e below (T23.setTop (mkF m 26 #[.val (.int p1), .val (.int p2), .val (.int p3), .val (.int p4), .val (.int p5), .val (.int (4 : Int32)), .val (.ref b22), .val (.long (p2.toInt64)), .second, .unset, .unset, .unset, .unset] [(.int (1 : Int32)), (.int (4 : Int32))])) _
      refine XS.icmpNo X23.here hx rfl (hb hby at_26) rfl (tlt (by decide : (1 : Int32) < (4 : Int32))).2.2.2 ?_
      show Steps p.tables e below (T23.setTop (mkF m 29 #[.val (.int p1), .val (.int p2), .val (.int p3), .val (.int p4), .val (.int p5), .val (.int (4 : Int32)), .val (.ref b22), .val (.long (p2.toInt64)), .second, .unset, .unset, .unset, .unset] [])) _
      refine XS.aload X23.here hx rfl (hb hby at_29) rfl rfl ?_
      show Steps p.tables e below (T23.setTop (mkF m 31 #[.val (.int p1), .val (.int p2), .val (.int p3), .val (.int p4), .val (.int p5), .val (.int (4 : Int32)), .val (.ref b22), .val (.long (p2.toInt64)), .second, .unset, .unset, .unset, .unset] [(.ref b22)])) _
      refine XS.iconst X23.here hx rfl (hb hby at_31) ?_
      show Steps p.tables e below (T23.setTop (mkF m 32 #[.val (.int p1), .val (.int p2), .val (.int p3), .val (.int p4), .val (.int p5), .val (.int (4 : Int32)), .val (.ref b22), .val (.long (p2.toInt64)), .second, .unset, .unset, .unset, .unset] [(.int (1 : Int32)), (.ref b22)])) _
      refine XS.iloadN X23.here hx rfl (hb hby at_32) rfl ?_
      show Steps p.tables e below (T23.setTop (mkF m 33 #[.val (.int p1), .val (.int p2), .val (.int p3), .val (.int p4), .val (.int p5), .val (.int (4 : Int32)), .val (.ref b22), .val (.long (p2.toInt64)), .second, .unset, .unset, .unset, .unset] [(.int p3), (.int (1 : Int32)), (.ref b22)])) _
      refine XS.i2dS X23.here hx rfl (v := (FP.l2d (p3.toInt64))) (hb hby at_33) rfl (i2d_w _) ?_
      show Steps p.tables e below (T23.setTop (mkF m 34 #[.val (.int p1), .val (.int p2), .val (.int p3), .val (.int p4), .val (.int p5), .val (.int (4 : Int32)), .val (.ref b22), .val (.long (p2.toInt64)), .second, .unset, .unset, .unset, .unset] [(.double (FP.l2d (p3.toInt64))), (.int (1 : Int32)), (.ref b22)])) _
      refine st24 _ ?_
      show Steps p.tables e below (T24.setTop (mkF m 35 #[.val (.int p1), .val (.int p2), .val (.int p3), .val (.int p4), .val (.int p5), .val (.int (4 : Int32)), .val (.ref b22), .val (.long (p2.toInt64)), .second, .unset, .unset, .unset, .unset] [])) _
      refine XS.lload X24.here hx rfl (hb hby at_35) rfl ?_
      show Steps p.tables e below (T24.setTop (mkF m 37 #[.val (.int p1), .val (.int p2), .val (.int p3), .val (.int p4), .val (.int p5), .val (.int (4 : Int32)), .val (.ref b22), .val (.long (p2.toInt64)), .second, .unset, .unset, .unset, .unset] [(.long (p2.toInt64))])) _
      refine XS.iloadN X24.here hx rfl (hb hby at_37) rfl ?_
      show Steps p.tables e below (T24.setTop (mkF m 38 #[.val (.int p1), .val (.int p2), .val (.int p3), .val (.int p4), .val (.int p5), .val (.int (4 : Int32)), .val (.ref b22), .val (.long (p2.toInt64)), .second, .unset, .unset, .unset, .unset] [(.int p3), (.long (p2.toInt64))])) _
      refine XS.i2l X24.here hx rfl (hb hby at_38) rfl ?_
      show Steps p.tables e below (T24.setTop (mkF m 39 #[.val (.int p1), .val (.int p2), .val (.int p3), .val (.int p4), .val (.int p5), .val (.int (4 : Int32)), .val (.ref b22), .val (.long (p2.toInt64)), .second, .unset, .unset, .unset, .unset] [(.long (p3.toInt64)), (.long (p2.toInt64))])) _
      refine XS.ladd X24.here hx rfl (hb hby at_39) rfl ?_
      show Steps p.tables e below (T24.setTop (mkF m 40 #[.val (.int p1), .val (.int p2), .val (.int p3), .val (.int p4), .val (.int p5), .val (.int (4 : Int32)), .val (.ref b22), .val (.long (p2.toInt64)), .second, .unset, .unset, .unset, .unset] [(.long ((p2.toInt64) + (p3.toInt64)))])) _
      refine XS.lstore X24.here hx rfl (hb hby at_40) rfl (l' := #[.val (.int p1), .val (.int p2), .val (.int p3), .val (.int p4), .val (.int p5), .val (.int (4 : Int32)), .val (.ref b22), .val (.long ((p2.toInt64) + (p3.toInt64))), .second, .unset, .unset, .unset, .unset]) rfl ?_
      show Steps p.tables e below (T24.setTop (mkF m 42 #[.val (.int p1), .val (.int p2), .val (.int p3), .val (.int p4), .val (.int p5), .val (.int (4 : Int32)), .val (.ref b22), .val (.long ((p2.toInt64) + (p3.toInt64))), .second, .unset, .unset, .unset, .unset] [])) _
      refine XS.iload X24.here hx rfl (hb hby at_42) rfl ?_
      show Steps p.tables e below (T24.setTop (mkF m 44 #[.val (.int p1), .val (.int p2), .val (.int p3), .val (.int p4), .val (.int p5), .val (.int (4 : Int32)), .val (.ref b22), .val (.long ((p2.toInt64) + (p3.toInt64))), .second, .unset, .unset, .unset, .unset] [(.int (4 : Int32))])) _
      refine XS.iconst X24.here hx rfl (hb hby at_44) ?_
      show Steps p.tables e below (T24.setTop (mkF m 45 #[.val (.int p1), .val (.int p2), .val (.int p3), .val (.int p4), .val (.int p5), .val (.int (4 : Int32)), .val (.ref b22), .val (.long ((p2.toInt64) + (p3.toInt64))), .second, .unset, .unset, .unset, .unset] [(.int (2 : Int32)), (.int (4 : Int32))])) _
      refine XS.icmpNo X24.here hx rfl (hb hby at_45) rfl (tlt (by decide : (2 : Int32) < (4 : Int32))).2.2.2 ?_
      show Steps p.tables e below (T24.setTop (mkF m 48 #[.val (.int p1), .val (.int p2), .val (.int p3), .val (.int p4), .val (.int p5), .val (.int (4 : Int32)), .val (.ref b22), .val (.long ((p2.toInt64) + (p3.toInt64))), .second, .unset, .unset, .unset, .unset] [])) _
      refine XS.aload X24.here hx rfl (hb hby at_48) rfl rfl ?_
      show Steps p.tables e below (T24.setTop (mkF m 50 #[.val (.int p1), .val (.int p2), .val (.int p3), .val (.int p4), .val (.int p5), .val (.int (4 : Int32)), .val (.ref b22), .val (.long ((p2.toInt64) + (p3.toInt64))), .second, .unset, .unset, .unset, .unset] [(.ref b22)])) _
      refine XS.iconst X24.here hx rfl (hb hby at_50) ?_
      show Steps p.tables e below (T24.setTop (mkF m 51 #[.val (.int p1), .val (.int p2), .val (.int p3), .val (.int p4), .val (.int p5), .val (.int (4 : Int32)), .val (.ref b22), .val (.long ((p2.toInt64) + (p3.toInt64))), .second, .unset, .unset, .unset, .unset] [(.int (2 : Int32)), (.ref b22)])) _
      refine XS.iloadN X24.here hx rfl (hb hby at_51) rfl ?_
      show Steps p.tables e below (T24.setTop (mkF m 52 #[.val (.int p1), .val (.int p2), .val (.int p3), .val (.int p4), .val (.int p5), .val (.int (4 : Int32)), .val (.ref b22), .val (.long ((p2.toInt64) + (p3.toInt64))), .second, .unset, .unset, .unset, .unset] [(.int p4), (.int (2 : Int32)), (.ref b22)])) _
      refine XS.i2dS X24.here hx rfl (v := (FP.l2d (p4.toInt64))) (hb hby at_52) rfl (i2d_w _) ?_
      show Steps p.tables e below (T24.setTop (mkF m 53 #[.val (.int p1), .val (.int p2), .val (.int p3), .val (.int p4), .val (.int p5), .val (.int (4 : Int32)), .val (.ref b22), .val (.long ((p2.toInt64) + (p3.toInt64))), .second, .unset, .unset, .unset, .unset] [(.double (FP.l2d (p4.toInt64))), (.int (2 : Int32)), (.ref b22)])) _
      refine st25 _ ?_
      show Steps p.tables e below (T25.setTop (mkF m 54 #[.val (.int p1), .val (.int p2), .val (.int p3), .val (.int p4), .val (.int p5), .val (.int (4 : Int32)), .val (.ref b22), .val (.long ((p2.toInt64) + (p3.toInt64))), .second, .unset, .unset, .unset, .unset] [])) _
      refine XS.lload X25.here hx rfl (hb hby at_54) rfl ?_
      show Steps p.tables e below (T25.setTop (mkF m 56 #[.val (.int p1), .val (.int p2), .val (.int p3), .val (.int p4), .val (.int p5), .val (.int (4 : Int32)), .val (.ref b22), .val (.long ((p2.toInt64) + (p3.toInt64))), .second, .unset, .unset, .unset, .unset] [(.long ((p2.toInt64) + (p3.toInt64)))])) _
      refine XS.iloadN X25.here hx rfl (hb hby at_56) rfl ?_
      show Steps p.tables e below (T25.setTop (mkF m 57 #[.val (.int p1), .val (.int p2), .val (.int p3), .val (.int p4), .val (.int p5), .val (.int (4 : Int32)), .val (.ref b22), .val (.long ((p2.toInt64) + (p3.toInt64))), .second, .unset, .unset, .unset, .unset] [(.int p4), (.long ((p2.toInt64) + (p3.toInt64)))])) _
      refine XS.i2l X25.here hx rfl (hb hby at_57) rfl ?_
      show Steps p.tables e below (T25.setTop (mkF m 58 #[.val (.int p1), .val (.int p2), .val (.int p3), .val (.int p4), .val (.int p5), .val (.int (4 : Int32)), .val (.ref b22), .val (.long ((p2.toInt64) + (p3.toInt64))), .second, .unset, .unset, .unset, .unset] [(.long (p4.toInt64)), (.long ((p2.toInt64) + (p3.toInt64)))])) _
      refine XS.ladd X25.here hx rfl (hb hby at_58) rfl ?_
      show Steps p.tables e below (T25.setTop (mkF m 59 #[.val (.int p1), .val (.int p2), .val (.int p3), .val (.int p4), .val (.int p5), .val (.int (4 : Int32)), .val (.ref b22), .val (.long ((p2.toInt64) + (p3.toInt64))), .second, .unset, .unset, .unset, .unset] [(.long (((p2.toInt64) + (p3.toInt64)) + (p4.toInt64)))])) _
      refine XS.lstore X25.here hx rfl (hb hby at_59) rfl (l' := #[.val (.int p1), .val (.int p2), .val (.int p3), .val (.int p4), .val (.int p5), .val (.int (4 : Int32)), .val (.ref b22), .val (.long (((p2.toInt64) + (p3.toInt64)) + (p4.toInt64))), .second, .unset, .unset, .unset, .unset]) rfl ?_
      show Steps p.tables e below (T25.setTop (mkF m 61 #[.val (.int p1), .val (.int p2), .val (.int p3), .val (.int p4), .val (.int p5), .val (.int (4 : Int32)), .val (.ref b22), .val (.long (((p2.toInt64) + (p3.toInt64)) + (p4.toInt64))), .second, .unset, .unset, .unset, .unset] [])) _
      refine XS.iload X25.here hx rfl (hb hby at_61) rfl ?_
      show Steps p.tables e below (T25.setTop (mkF m 63 #[.val (.int p1), .val (.int p2), .val (.int p3), .val (.int p4), .val (.int p5), .val (.int (4 : Int32)), .val (.ref b22), .val (.long (((p2.toInt64) + (p3.toInt64)) + (p4.toInt64))), .second, .unset, .unset, .unset, .unset] [(.int (4 : Int32))])) _
      refine XS.iconst X25.here hx rfl (hb hby at_63) ?_
      show Steps p.tables e below (T25.setTop (mkF m 64 #[.val (.int p1), .val (.int p2), .val (.int p3), .val (.int p4), .val (.int p5), .val (.int (4 : Int32)), .val (.ref b22), .val (.long (((p2.toInt64) + (p3.toInt64)) + (p4.toInt64))), .second, .unset, .unset, .unset, .unset] [(.int (3 : Int32)), (.int (4 : Int32))])) _
      refine XS.icmpNo X25.here hx rfl (hb hby at_64) rfl (tlt (by decide : (3 : Int32) < (4 : Int32))).2.2.2 ?_
      show Steps p.tables e below (T25.setTop (mkF m 67 #[.val (.int p1), .val (.int p2), .val (.int p3), .val (.int p4), .val (.int p5), .val (.int (4 : Int32)), .val (.ref b22), .val (.long (((p2.toInt64) + (p3.toInt64)) + (p4.toInt64))), .second, .unset, .unset, .unset, .unset] [])) _
      refine XS.aload X25.here hx rfl (hb hby at_67) rfl rfl ?_
      show Steps p.tables e below (T25.setTop (mkF m 69 #[.val (.int p1), .val (.int p2), .val (.int p3), .val (.int p4), .val (.int p5), .val (.int (4 : Int32)), .val (.ref b22), .val (.long (((p2.toInt64) + (p3.toInt64)) + (p4.toInt64))), .second, .unset, .unset, .unset, .unset] [(.ref b22)])) _
      refine XS.iconst X25.here hx rfl (hb hby at_69) ?_
      show Steps p.tables e below (T25.setTop (mkF m 70 #[.val (.int p1), .val (.int p2), .val (.int p3), .val (.int p4), .val (.int p5), .val (.int (4 : Int32)), .val (.ref b22), .val (.long (((p2.toInt64) + (p3.toInt64)) + (p4.toInt64))), .second, .unset, .unset, .unset, .unset] [(.int (3 : Int32)), (.ref b22)])) _
      refine XS.iload X25.here hx rfl (hb hby at_70) rfl ?_
      show Steps p.tables e below (T25.setTop (mkF m 72 #[.val (.int p1), .val (.int p2), .val (.int p3), .val (.int p4), .val (.int p5), .val (.int (4 : Int32)), .val (.ref b22), .val (.long (((p2.toInt64) + (p3.toInt64)) + (p4.toInt64))), .second, .unset, .unset, .unset, .unset] [(.int p5), (.int (3 : Int32)), (.ref b22)])) _
      refine XS.i2dS X25.here hx rfl (v := (FP.l2d (p5.toInt64))) (hb hby at_72) rfl (i2d_w _) ?_
      show Steps p.tables e below (T25.setTop (mkF m 73 #[.val (.int p1), .val (.int p2), .val (.int p3), .val (.int p4), .val (.int p5), .val (.int (4 : Int32)), .val (.ref b22), .val (.long (((p2.toInt64) + (p3.toInt64)) + (p4.toInt64))), .second, .unset, .unset, .unset, .unset] [(.double (FP.l2d (p5.toInt64))), (.int (3 : Int32)), (.ref b22)])) _
      refine st26 _ ?_
      show Steps p.tables e below (T26.setTop (mkF m 74 #[.val (.int p1), .val (.int p2), .val (.int p3), .val (.int p4), .val (.int p5), .val (.int (4 : Int32)), .val (.ref b22), .val (.long (((p2.toInt64) + (p3.toInt64)) + (p4.toInt64))), .second, .unset, .unset, .unset, .unset] [])) _
      refine XS.lload X26.here hx rfl (hb hby at_74) rfl ?_
      show Steps p.tables e below (T26.setTop (mkF m 76 #[.val (.int p1), .val (.int p2), .val (.int p3), .val (.int p4), .val (.int p5), .val (.int (4 : Int32)), .val (.ref b22), .val (.long (((p2.toInt64) + (p3.toInt64)) + (p4.toInt64))), .second, .unset, .unset, .unset, .unset] [(.long (((p2.toInt64) + (p3.toInt64)) + (p4.toInt64)))])) _
      refine XS.iload X26.here hx rfl (hb hby at_76) rfl ?_
      show Steps p.tables e below (T26.setTop (mkF m 78 #[.val (.int p1), .val (.int p2), .val (.int p3), .val (.int p4), .val (.int p5), .val (.int (4 : Int32)), .val (.ref b22), .val (.long (((p2.toInt64) + (p3.toInt64)) + (p4.toInt64))), .second, .unset, .unset, .unset, .unset] [(.int p5), (.long (((p2.toInt64) + (p3.toInt64)) + (p4.toInt64)))])) _
      refine XS.i2l X26.here hx rfl (hb hby at_78) rfl ?_
      show Steps p.tables e below (T26.setTop (mkF m 79 #[.val (.int p1), .val (.int p2), .val (.int p3), .val (.int p4), .val (.int p5), .val (.int (4 : Int32)), .val (.ref b22), .val (.long (((p2.toInt64) + (p3.toInt64)) + (p4.toInt64))), .second, .unset, .unset, .unset, .unset] [(.long (p5.toInt64)), (.long (((p2.toInt64) + (p3.toInt64)) + (p4.toInt64)))])) _
      refine XS.ladd X26.here hx rfl (hb hby at_79) rfl ?_
      show Steps p.tables e below (T26.setTop (mkF m 80 #[.val (.int p1), .val (.int p2), .val (.int p3), .val (.int p4), .val (.int p5), .val (.int (4 : Int32)), .val (.ref b22), .val (.long (((p2.toInt64) + (p3.toInt64)) + (p4.toInt64))), .second, .unset, .unset, .unset, .unset] [(.long ((((p2.toInt64) + (p3.toInt64)) + (p4.toInt64)) + (p5.toInt64)))])) _
      refine XS.lstore X26.here hx rfl (hb hby at_80) rfl (l' := #[.val (.int p1), .val (.int p2), .val (.int p3), .val (.int p4), .val (.int p5), .val (.int (4 : Int32)), .val (.ref b22), .val (.long ((((p2.toInt64) + (p3.toInt64)) + (p4.toInt64)) + (p5.toInt64))), .second, .unset, .unset, .unset, .unset]) rfl ?_
      show Steps p.tables e below (T26.setTop (mkF m 82 #[.val (.int p1), .val (.int p2), .val (.int p3), .val (.int p4), .val (.int p5), .val (.int (4 : Int32)), .val (.ref b22), .val (.long ((((p2.toInt64) + (p3.toInt64)) + (p4.toInt64)) + (p5.toInt64))), .second, .unset, .unset, .unset, .unset] [])) _
      refine XS.lload X26.here hx rfl (hb hby at_82) rfl ?_
      show Steps p.tables e below (T26.setTop (mkF m 84 #[.val (.int p1), .val (.int p2), .val (.int p3), .val (.int p4), .val (.int p5), .val (.int (4 : Int32)), .val (.ref b22), .val (.long ((((p2.toInt64) + (p3.toInt64)) + (p4.toInt64)) + (p5.toInt64))), .second, .unset, .unset, .unset, .unset] [(.long ((((p2.toInt64) + (p3.toInt64)) + (p4.toInt64)) + (p5.toInt64)))])) _
      refine XS.l2dS X26.here hx rfl (v := (FP.l2d ((((p2.toInt64) + (p3.toInt64)) + (p4.toInt64)) + (p5.toInt64)))) (hb hby at_84) rfl rfl ?_
      show Steps p.tables e below (T26.setTop (mkF m 85 #[.val (.int p1), .val (.int p2), .val (.int p3), .val (.int p4), .val (.int p5), .val (.int (4 : Int32)), .val (.ref b22), .val (.long ((((p2.toInt64) + (p3.toInt64)) + (p4.toInt64)) + (p5.toInt64))), .second, .unset, .unset, .unset, .unset] [(.double (FP.l2d ((((p2.toInt64) + (p3.toInt64)) + (p4.toInt64)) + (p5.toInt64))))])) _
      refine XS.iload X26.here hx rfl (hb hby at_85) rfl ?_
      show Steps p.tables e below (T26.setTop (mkF m 87 #[.val (.int p1), .val (.int p2), .val (.int p3), .val (.int p4), .val (.int p5), .val (.int (4 : Int32)), .val (.ref b22), .val (.long ((((p2.toInt64) + (p3.toInt64)) + (p4.toInt64)) + (p5.toInt64))), .second, .unset, .unset, .unset, .unset] [(.int (4 : Int32)), (.double (FP.l2d ((((p2.toInt64) + (p3.toInt64)) + (p4.toInt64)) + (p5.toInt64))))])) _
      refine XS.i2dS X26.here hx rfl (v := (FP.l2d (4 : Int64))) (hb hby at_87) rfl (i2d_w _) ?_
      show Steps p.tables e below (T26.setTop (mkF m 88 #[.val (.int p1), .val (.int p2), .val (.int p3), .val (.int p4), .val (.int p5), .val (.int (4 : Int32)), .val (.ref b22), .val (.long ((((p2.toInt64) + (p3.toInt64)) + (p4.toInt64)) + (p5.toInt64))), .second, .unset, .unset, .unset, .unset] [(.double (FP.l2d (4 : Int64))), (.double (FP.l2d ((((p2.toInt64) + (p3.toInt64)) + (p4.toInt64)) + (p5.toInt64))))])) _
      refine XS.ddivS X26.here hx rfl (v := (FP.ddiv (FP.l2d ((((p2.toInt64) + (p3.toInt64)) + (p4.toInt64)) + (p5.toInt64))) (FP.l2d (4 : Int64)))) (hb hby at_88) rfl (own_nn (by decide)) rfl ?_
      show Steps p.tables e below (T26.setTop (mkF m 89 #[.val (.int p1), .val (.int p2), .val (.int p3), .val (.int p4), .val (.int p5), .val (.int (4 : Int32)), .val (.ref b22), .val (.long ((((p2.toInt64) + (p3.toInt64)) + (p4.toInt64)) + (p5.toInt64))), .second, .unset, .unset, .unset, .unset] [(.double (FP.ddiv (FP.l2d ((((p2.toInt64) + (p3.toInt64)) + (p4.toInt64)) + (p5.toInt64))) (FP.l2d (4 : Int64))))])) _
      refine XS.dstore X26.here hx rfl (hb hby at_89) rfl (l' := #[.val (.int p1), .val (.int p2), .val (.int p3), .val (.int p4), .val (.int p5), .val (.int (4 : Int32)), .val (.ref b22), .val (.long ((((p2.toInt64) + (p3.toInt64)) + (p4.toInt64)) + (p5.toInt64))), .second, .val (.double (FP.ddiv (FP.l2d ((((p2.toInt64) + (p3.toInt64)) + (p4.toInt64)) + (p5.toInt64))) (FP.l2d (4 : Int64)))), .second, .unset, .unset]) rfl ?_
      show Steps p.tables e below (T26.setTop (mkF m 91 #[.val (.int p1), .val (.int p2), .val (.int p3), .val (.int p4), .val (.int p5), .val (.int (4 : Int32)), .val (.ref b22), .val (.long ((((p2.toInt64) + (p3.toInt64)) + (p4.toInt64)) + (p5.toInt64))), .second, .val (.double (FP.ddiv (FP.l2d ((((p2.toInt64) + (p3.toInt64)) + (p4.toInt64)) + (p5.toInt64))) (FP.l2d (4 : Int64)))), .second, .unset, .unset] [])) _
      refine XS.aload X26.here hx rfl (hb hby at_91) rfl rfl ?_
      show Steps p.tables e below (T26.setTop (mkF m 93 #[.val (.int p1), .val (.int p2), .val (.int p3), .val (.int p4), .val (.int p5), .val (.int (4 : Int32)), .val (.ref b22), .val (.long ((((p2.toInt64) + (p3.toInt64)) + (p4.toInt64)) + (p5.toInt64))), .second, .val (.double (FP.ddiv (FP.l2d ((((p2.toInt64) + (p3.toInt64)) + (p4.toInt64)) + (p5.toInt64))) (FP.l2d (4 : Int64)))), .second, .unset, .unset] [(.ref b22)])) _
      refine st27 _ ?_
      show Steps p.tables e below (T27.setTop (mkF m 96 #[.val (.int p1), .val (.int p2), .val (.int p3), .val (.int p4), .val (.int p5), .val (.int (4 : Int32)), .val (.ref b22), .val (.long ((((p2.toInt64) + (p3.toInt64)) + (p4.toInt64)) + (p5.toInt64))), .second, .val (.double (FP.ddiv (FP.l2d ((((p2.toInt64) + (p3.toInt64)) + (p4.toInt64)) + (p5.toInt64))) (FP.l2d (4 : Int64)))), .second, .unset, .unset] [(.double (FP.ddiv (FP.l2d (((((0 : Int64) + (p2.toInt64)) + (p3.toInt64)) + (p4.toInt64)) + (p5.toInt64))) (FP.l2d (4 : Int64))))])) _
      refine XS.dstore X27.here hx rfl (hb hby at_96) rfl (l' := #[.val (.int p1), .val (.int p2), .val (.int p3), .val (.int p4), .val (.int p5), .val (.int (4 : Int32)), .val (.ref b22), .val (.long ((((p2.toInt64) + (p3.toInt64)) + (p4.toInt64)) + (p5.toInt64))), .second, .val (.double (FP.ddiv (FP.l2d ((((p2.toInt64) + (p3.toInt64)) + (p4.toInt64)) + (p5.toInt64))) (FP.l2d (4 : Int64)))), .second, .val (.double (FP.ddiv (FP.l2d (((((0 : Int64) + (p2.toInt64)) + (p3.toInt64)) + (p4.toInt64)) + (p5.toInt64))) (FP.l2d (4 : Int64)))), .second]) rfl ?_
      show Steps p.tables e below (T27.setTop (mkF m 98 #[.val (.int p1), .val (.int p2), .val (.int p3), .val (.int p4), .val (.int p5), .val (.int (4 : Int32)), .val (.ref b22), .val (.long ((((p2.toInt64) + (p3.toInt64)) + (p4.toInt64)) + (p5.toInt64))), .second, .val (.double (FP.ddiv (FP.l2d ((((p2.toInt64) + (p3.toInt64)) + (p4.toInt64)) + (p5.toInt64))) (FP.l2d (4 : Int64)))), .second, .val (.double (FP.ddiv (FP.l2d (((((0 : Int64) + (p2.toInt64)) + (p3.toInt64)) + (p4.toInt64)) + (p5.toInt64))) (FP.l2d (4 : Int64)))), .second] [])) _
      refine XS.dload X27.here hx rfl (hb hby at_98) rfl ?_
      show Steps p.tables e below (T27.setTop (mkF m 100 #[.val (.int p1), .val (.int p2), .val (.int p3), .val (.int p4), .val (.int p5), .val (.int (4 : Int32)), .val (.ref b22), .val (.long ((((p2.toInt64) + (p3.toInt64)) + (p4.toInt64)) + (p5.toInt64))), .second, .val (.double (FP.ddiv (FP.l2d ((((p2.toInt64) + (p3.toInt64)) + (p4.toInt64)) + (p5.toInt64))) (FP.l2d (4 : Int64)))), .second, .val (.double (FP.ddiv (FP.l2d (((((0 : Int64) + (p2.toInt64)) + (p3.toInt64)) + (p4.toInt64)) + (p5.toInt64))) (FP.l2d (4 : Int64)))), .second] [(.double (FP.ddiv (FP.l2d (((((0 : Int64) + (p2.toInt64)) + (p3.toInt64)) + (p4.toInt64)) + (p5.toInt64))) (FP.l2d (4 : Int64))))])) _
      refine XS.dload X27.here hx rfl (hb hby at_100) rfl ?_
      show Steps p.tables e below (T27.setTop (mkF m 102 #[.val (.int p1), .val (.int p2), .val (.int p3), .val (.int p4), .val (.int p5), .val (.int (4 : Int32)), .val (.ref b22), .val (.long ((((p2.toInt64) + (p3.toInt64)) + (p4.toInt64)) + (p5.toInt64))), .second, .val (.double (FP.ddiv (FP.l2d ((((p2.toInt64) + (p3.toInt64)) + (p4.toInt64)) + (p5.toInt64))) (FP.l2d (4 : Int64)))), .second, .val (.double (FP.ddiv (FP.l2d (((((0 : Int64) + (p2.toInt64)) + (p3.toInt64)) + (p4.toInt64)) + (p5.toInt64))) (FP.l2d (4 : Int64)))), .second] [(.double (FP.ddiv (FP.l2d ((((p2.toInt64) + (p3.toInt64)) + (p4.toInt64)) + (p5.toInt64))) (FP.l2d (4 : Int64)))), (.double (FP.ddiv (FP.l2d (((((0 : Int64) + (p2.toInt64)) + (p3.toInt64)) + (p4.toInt64)) + (p5.toInt64))) (FP.l2d (4 : Int64))))])) _
      refine XS.dcmpS X27.here hx rfl (v := (0 : Int32)) (hb hby at_102) rfl (dcmpV_eq (by simp only [Int64.zero_add]) (own_nn (by decide)) _) ?_
      show Steps p.tables e below (T27.setTop (mkF m 103 #[.val (.int p1), .val (.int p2), .val (.int p3), .val (.int p4), .val (.int p5), .val (.int (4 : Int32)), .val (.ref b22), .val (.long ((((p2.toInt64) + (p3.toInt64)) + (p4.toInt64)) + (p5.toInt64))), .second, .val (.double (FP.ddiv (FP.l2d ((((p2.toInt64) + (p3.toInt64)) + (p4.toInt64)) + (p5.toInt64))) (FP.l2d (4 : Int64)))), .second, .val (.double (FP.ddiv (FP.l2d (((((0 : Int64) + (p2.toInt64)) + (p3.toInt64)) + (p4.toInt64)) + (p5.toInt64))) (FP.l2d (4 : Int64)))), .second] [(.int (0 : Int32))])) _
      refine XS.ifNo X27.here hx rfl (hb hby at_103) rfl ((if0 _ _).trans (teq (rfl : (0 : Int32) = (0 : Int32))).2) ?_
      show Steps p.tables e below (T27.setTop (mkF m 106 #[.val (.int p1), .val (.int p2), .val (.int p3), .val (.int p4), .val (.int p5), .val (.int (4 : Int32)), .val (.ref b22), .val (.long ((((p2.toInt64) + (p3.toInt64)) + (p4.toInt64)) + (p5.toInt64))), .second, .val (.double (FP.ddiv (FP.l2d ((((p2.toInt64) + (p3.toInt64)) + (p4.toInt64)) + (p5.toInt64))) (FP.l2d (4 : Int64)))), .second, .val (.double (FP.ddiv (FP.l2d (((((0 : Int64) + (p2.toInt64)) + (p3.toInt64)) + (p4.toInt64)) + (p5.toInt64))) (FP.l2d (4 : Int64)))), .second] [])) _
      refine XS.iconst X27.here hx rfl (hb hby at_106) ?_
      show Steps p.tables e below (T27.setTop (mkF m 107 #[.val (.int p1), .val (.int p2), .val (.int p3), .val (.int p4), .val (.int p5), .val (.int (4 : Int32)), .val (.ref b22), .val (.long ((((p2.toInt64) + (p3.toInt64)) + (p4.toInt64)) + (p5.toInt64))), .second, .val (.double (FP.ddiv (FP.l2d ((((p2.toInt64) + (p3.toInt64)) + (p4.toInt64)) + (p5.toInt64))) (FP.l2d (4 : Int64)))), .second, .val (.double (FP.ddiv (FP.l2d (((((0 : Int64) + (p2.toInt64)) + (p3.toInt64)) + (p4.toInt64)) + (p5.toInt64))) (FP.l2d (4 : Int64)))), .second] [(.int (1 : Int32))])) _
      refine XS.goto X27.here hx rfl (pc0 := 107) (pc' := 111) rfl (hb hby at_107) (by decide) (by decide) ?_
      show Steps p.tables e below (T27.setTop (mkF m 111 #[.val (.int p1), .val (.int p2), .val (.int p3), .val (.int p4), .val (.int p5), .val (.int (4 : Int32)), .val (.ref b22), .val (.long ((((p2.toInt64) + (p3.toInt64)) + (p4.toInt64)) + (p5.toInt64))), .second, .val (.double (FP.ddiv (FP.l2d ((((p2.toInt64) + (p3.toInt64)) + (p4.toInt64)) + (p5.toInt64))) (FP.l2d (4 : Int64)))), .second, .val (.double (FP.ddiv (FP.l2d (((((0 : Int64) + (p2.toInt64)) + (p3.toInt64)) + (p4.toInt64)) + (p5.toInt64))) (FP.l2d (4 : Int64)))), .second] [(.int (1 : Int32))])) _
      exact retN X27 hx (t := .boolean) Bd.returns (by simp) (hb hby at_111) hr
    · show Q0 Z p1 p2 p3 p4 p5 h0 n0 _ T27.heap _
      rw [e27]
      exact ⟨rfl, N27⟩
set_option maxRecDepth 65536 in
set_option maxHeartbeats 40000000 in
theorem comes_1 {Post : Tables → Env → Array Value → State → Outcome → State → Prop} (hpost : ∀ tb e args s v u, (limb_1_1.after args s (.returned v) u = true ∧ limb_1_2.after args s (.returned v) u = true ∧ True) → FrameEnd s (.returned v) u (Jvm.fieldLocs frame_1_writes args s ++ Jvm.arrayLocs frame_1_arrays args s ++ Jvm.staticLocs frame_1_statics s) 16 128 → Post tb e args s (.returned v) u) :
    ArmFor flags0 classFile x code maxLocals ret World_1 tables_1 room_1 Calls_1 rest_1 Pre_1 Post := by
  intro l hfl _ _ p e ha hc hk s m args below hf hA hF happ hP
  obtain ⟨hcalls, hrest, hpre⟩ := hP
  obtain ⟨-, -, -, hnamed, -, -, -, hat⟩ := (Spec.applies_iff hf).mp happ
  obtain ⟨hg, hn⟩ := and_e (Cond.before_iff.mp (show (Jvm.Cond.and given_1 narrow_1).before args s = true from hpre))
  obtain ⟨g1, g2⟩ := and_e hg
  obtain ⟨g3, g4⟩ := and_e g2
  obtain ⟨g5, g6⟩ := and_e g4
  obtain ⟨g7, g8⟩ := and_e g6
  obtain ⟨g9, g10⟩ := and_e g8
  obtain ⟨w0, w1, w2, w3, w4, rfl⟩ : ∃ w0 w1 w2 w3 w4 : Value, args = #[w0, w1, w2, w3, w4] := by
    have hs : args.size = 5 := by simpa [Cond.value, given_1] using g1
    obtain ⟨L⟩ := args
    match L, hs with
    | [w0, w1, w2, w3, w4], _ => exact ⟨w0, w1, w2, w3, w4, rfl⟩
  have hw := fun d (hd : d ∈ tables_1) => atoms_spec (ws := Jvm.Cond.code x code maxLocals ret :: tables_1) hat d (List.mem_cons_of_mem _ hd)
  have hfit : Fit s := fun {y c} hc i hi => by
    obtain ⟨ha, rfl⟩ := Array.getElem?_eq_some_iff.mp hc
    have q := List.all_eq_true.mp ((Array.all_eq_true_iff_forall_mem.mp hF) _ (Array.getElem_mem ha)) i (List.mem_range.mpr hi)
    simpa [Array.getElem?_eq_getElem hi] using q
  obtain ⟨i0, ei0⟩ := is_v g3
  obtain rfl : w0 = (.int i0) := Option.some.inj ei0
  obtain ⟨i1, ei1⟩ := is_v g5
  obtain rfl : w1 = (.int i1) := Option.some.inj ei1
  obtain ⟨i2, ei2⟩ := is_v g7
  obtain rfl : w2 = (.int i2) := Option.some.inj ei2
  obtain ⟨i3, ei3⟩ := is_v g9
  obtain rfl : w3 = (.int i3) := Option.some.inj ei3
  obtain ⟨i4, ei4⟩ := is_v g10
  obtain rfl : w4 = (.int i4) := Option.some.inj ei4
  obtain ⟨n, o, h1, h2, h3, _, L, rfl, ⟨rfl, N⟩, hq⟩ := rm0 l s _ hw tables_1 i0 i1 i2 i3 i4 s.heap s.heap.size (Nat.le_refl _) p e ha hc hk s m _ below hf ((Spec.applies_iff_loose hf).mp happ).1 ⟨rfl, State.Warmed39.refl s, rfl⟩ trivial
  refine ⟨n, _, h1, h2, h3, hpost _ _ _ _ _ _ ⟨Cond.after_iff.mpr rfl, Cond.after_iff.mpr (eq_i res_at (Term.int_eval (1)) rfl), trivial⟩ ⟨hq.1, hq.2.1, (hq.2.2.sift fun y hy => Or.inr (N y hy)).mono (by decide) (by decide)⟩⟩
theorem main_1_1 : Claimed_1_1 := comes_1 fun _ _ _ _ _ _ h hF => ⟨h.1, hF⟩
theorem main_1_2 : Claimed_1_2 := comes_1 fun _ _ _ _ _ _ h hF => ⟨h.2.1, hF⟩
end Jvm.Pilot.@@N@@
namespace Jvm.Pilot.@@N@@
open Jvm Jvm.ClassFile Sem Op Lib Jvm.Free Jvm.Stand Jvm.Pilot.@@N@@.Jvm.D
/-! MADE BY PROGRAM (witnessworld.py) out of the Statement's table words and the real class files: 9 classes; the members and pool entries that the words name. The judged class is class 1, her method 1. -/
namespace start1
open Jvm.ClassFile
def u (s : String) : CpInfo := .utf8 (stringToUtf16 s)
/-- a pool by its gaps: so many unusable entries, then the entry; so many at the end -/
def gap : Nat → List CpInfo → List CpInfo
  | 0, r => r
  | n + 1, r => .unusable :: gap n r
def poolList (es : List (Nat × CpInfo)) (last : Nat) : List CpInfo := es.foldr (fun e r => gap e.1 (e.2 :: r)) (gap last [])
def pool (es : List (Nat × CpInfo)) (last : Nat) : Array CpInfo := ⟨poolList es last⟩
def fileOf (pool : Array CpInfo) (this : Nat) (attrs : Array Attribute := #[]) (ms : Array MethodInfo := #[]) (fl : Nat := 33) (sup : Nat := 0) (ifs : Array Nat := #[]) (fds : Array FieldInfo := #[]) : ClassFile where
  minorVersion := 0
  majorVersion := 65
  constantPool := pool
  accessFlags := fl
  thisClass := this
  superClass := sup
  interfaces := ifs
  fields := fds
  methods := ms
  attributes := attrs
def plain (name : String) (sup : Option ClassId) : Class where
  name := name
  kind := .ordinary
  loader := none
  accessFlags := 33
  super := sup
  interfaces := #[]
  cf := none
  fields := #[]
  methods := #[]
  instanceTypes := #[]
  staticTypes := #[]
  resolved := #[]
  callSites := []
  init := .initialized
  statics := none
  mirror := none

def pool0 : Array CpInfo := pool [(5, u "<init>"), (0, u "()V"), (1, .class_ 10), (1, u "java/lang/Object")] 113

def k0m0 : Method := { name := "<init>", desc := "()V", sig := { parameters := [], returnType := none }, accessFlags := 1, code := none }
/-- java/lang/Object -/
def k0 : Class := { plain "java/lang/Object" none with
  accessFlags := 33
  interfaces := #[]
  cf := some (fileOf pool0 8 #[] #[{ accessFlags := 1, nameIndex := 5, descriptorIndex := 6, attributes := #[] }] 33 0 #[] #[])
  fields := #[]
  methods := #[k0m0]
  instanceTypes := #[]
  staticTypes := #[]
  resolved := Array.replicate 124 none
  statics := none }

def pool1 : Array CpInfo := pool [(2, .class_ 4), (1, u "java/lang/Object"), (0, u "<init>"), (0, u "()V"), (0, .methodref 8 9), (0, .class_ 10), (0, .nameAndType 11 12), (0, u "com/example/byeonhwa/byeonhwa/WelchTest"), (0, u "mean"), (0, u "([D)D"), (0, .class_ 14), (0, u "com/example/byeonhwa/byeonhwa/WelchTestMeanPinLaw"), (2, u "law"), (0, u "(IIIII)Z")] 5

def k1m0 : Method := { name := "<init>", desc := "()V", sig := { parameters := [], returnType := none }, accessFlags := 2, code := none }
def k1c1 : Code := { maxStack := 4, maxLocals := 13, code := code, exceptionTable := #[], attributes := #[] }
def k1m1 : Method := { name := "law", desc := "(IIIII)Z", sig := { parameters := [.int, .int, .int, .int, .int], returnType := some .boolean }, accessFlags := 9, code := some k1c1 }
/-- com/example/byeonhwa/byeonhwa/WelchTestMeanPinLaw -/
def k1 : Class := { plain "com/example/byeonhwa/byeonhwa/WelchTestMeanPinLaw" (some 0) with
  accessFlags := 49
  interfaces := #[]
  cf := some (fileOf pool1 13 #[] #[{ accessFlags := 2, nameIndex := 5, descriptorIndex := 6, attributes := #[] }, { accessFlags := 9, nameIndex := 17, descriptorIndex := 18, attributes := #[] }] 49 2 #[] #[])
  fields := #[]
  methods := #[k1m0, k1m1]
  instanceTypes := #[]
  staticTypes := #[]
  resolved := Array.replicate 24 none
  statics := none }

def pool2 : Array CpInfo := pool [(2, .class_ 4), (1, u "java/lang/Object"), (0, u "<init>"), (0, u "()V"), (5, .class_ 14), (1, u "com/example/byeonhwa/byeonhwa/WelchTest"), (0, u "mean"), (0, u "([D)D"), (59, u "CONVERGED"), (0, u "D"), (1, u "MOST_STEPS"), (0, u "I"), (0, u "TINY"), (0, u "STIRLING_FROM")] 9

def k2m0 : Method := { name := "<init>", desc := "()V", sig := { parameters := [], returnType := none }, accessFlags := 2, code := none }
def k2c1 : Code := { maxStack := 4, maxLocals := 8, code := prog_64_method_4_code, exceptionTable := #[], attributes := #[] }
def k2m1 : Method := { name := "mean", desc := "([D)D", sig := { parameters := [(.array .double)], returnType := some .double }, accessFlags := 8, code := some k2c1 }
/-- com/example/byeonhwa/byeonhwa/WelchTest -/
def k2 : Class := { plain "com/example/byeonhwa/byeonhwa/WelchTest" (some 0) with
  accessFlags := 32
  interfaces := #[]
  cf := some (fileOf pool2 12 #[] #[{ accessFlags := 2, nameIndex := 5, descriptorIndex := 6, attributes := #[] }, { accessFlags := 8, nameIndex := 15, descriptorIndex := 16, attributes := #[] }] 32 2 #[] #[{ accessFlags := 26, nameIndex := 76, descriptorIndex := 77, attributes := #[] }, { accessFlags := 26, nameIndex := 79, descriptorIndex := 80, attributes := #[] }, { accessFlags := 26, nameIndex := 81, descriptorIndex := 77, attributes := #[] }, { accessFlags := 26, nameIndex := 82, descriptorIndex := 77, attributes := #[] }])
  fields := #[{ name := "CONVERGED", type := .double, accessFlags := 26, slot := 0, constantValue := 0 }, { name := "MOST_STEPS", type := .int, accessFlags := 26, slot := 1, constantValue := 0 }, { name := "TINY", type := .double, accessFlags := 26, slot := 2, constantValue := 0 }, { name := "STIRLING_FROM", type := .double, accessFlags := 26, slot := 3, constantValue := 0 }]
  methods := #[k2m0, k2m1]
  instanceTypes := #[]
  staticTypes := #[.double, .int, .double, .double]
  resolved := Array.replicate 92 none
  statics := none }

def pool3 : Array CpInfo := pool [(1, u "java/lang/Cloneable"), (0, .class_ 1), (0, u "java/lang/Object"), (0, .class_ 3)] 3

/-- java/lang/Cloneable -/
def k3 : Class := { plain "java/lang/Cloneable" (some 0) with
  accessFlags := 1537
  interfaces := #[]
  cf := some (fileOf pool3 2 #[] #[] 1537 4 #[] #[])
  fields := #[]
  methods := #[]
  instanceTypes := #[]
  staticTypes := #[]
  resolved := Array.replicate 8 none
  statics := none }

def pool4 : Array CpInfo := pool [(1, u "java/io/Serializable"), (0, .class_ 1), (0, u "java/lang/Object"), (0, .class_ 3)] 3

/-- java/io/Serializable -/
def k4 : Class := { plain "java/io/Serializable" (some 0) with
  accessFlags := 1537
  interfaces := #[]
  cf := some (fileOf pool4 2 #[] #[] 1537 4 #[] #[])
  fields := #[]
  methods := #[]
  instanceTypes := #[]
  staticTypes := #[]
  resolved := Array.replicate 8 none
  statics := none }

/-- the primitive byte -/
def k5 : Class := { plain "byte" none with kind := .primitive 'B', accessFlags := 0x411 }
/-- [B -/
def k6 : Class := { plain "[B" (some 0) with kind := .array 5 .byte, interfaces := #[3, 4], accessFlags := 1041 }

/-- the primitive int -/
def k7 : Class := { plain "int" none with kind := .primitive 'I', accessFlags := 0x411 }
/-- [I -/
def k8 : Class := { plain "[I" (some 0) with kind := .array 7 .int, interfaces := #[3, 4], accessFlags := 1041 }

/-- the primitive double -/
def k9 : Class := { plain "double" none with kind := .primitive 'D', accessFlags := 0x411 }
/-- [D -/
def k10 : Class := { plain "[D" (some 0) with kind := .array 9 .double, interfaces := #[3, 4], accessFlags := 1041 }
def heap : Heap := #[]
def classes : Array Class := #[k0, k1, k2, k3, k4, k5, k6, k7, k8, k9, k10]
def interned : List (Array UInt16 × Addr) := []
def slotsUsed : Nat := 0
def theMethod : MethodId := ⟨1, 1⟩
def args0 : Array Value := #[.int 5, .int 6, .int 7, .int 8, .int 9]
def aboutOver (below : List Frame) : State where
  vm := { classes := classes, interned := interned.toArray }
  heap := heap
  slotsUsed := slotsUsed
  threads := #[{ frames := .invoking theMethod args0 :: below }]
def below0 : List Frame := [.native { method := ⟨0, 0⟩, args := #[] }]
def about1 : State := aboutOver below0
def p0 : Program := .bare "" "" ""
def e0 : Env := launch0.env 0 0 0
theorem w_frames : about1.frames = Frame.invoking theMethod args0 :: below0 := rfl
set_option maxRecDepth 65536 in
theorem w_args : argsFit about1.vm theMethod args0 = true := by decide +kernel
set_option maxRecDepth 65536 in
theorem w_heap : heapFits about1 = true := by decide +kernel
set_option maxRecDepth 65536 in
theorem w_runnable : about1.curStatus? = some .runnable := by decide +kernel
set_option maxRecDepth 65536 in
theorem w_alone : about1.alone = true := by decide +kernel
set_option maxRecDepth 65536 in
theorem w_named : about1.methodNamed? x = some theMethod := by decide +kernel
set_option maxRecDepth 65536 in
theorem w_hears : about1.hears theMethod below0 = true := by decide +kernel
set_option maxRecDepth 65536 in
theorem w_ripe : about1.ripe theMethod args0 below0 = true := by decide +kernel
theorem w_running : about1.status = .running := rfl
set_option maxRecDepth 65536 in
theorem w_room : about1.hasRoom e0.platform room_1 = true :=
  launch0.hasRoom_least _ room_1 (by decide +kernel) (by decide +kernel) (by decide +kernel) (by decide +kernel) (by decide +kernel) (by decide +kernel)
theorem allAtoms_all (ts : List Jvm.Cond) (a : Array Jvm.Value) (st : Jvm.State) : (allAtoms ts).before a st = ts.all (fun c => c.before a st) := by
  induction ts with
  | nil => rfl
  | cons c t ih =>
    show (Jvm.Cond.and c (allAtoms t)).before a st = _
    rw [Jvm.Cond.before_and, ih, List.all_cons]
def words1 : List Jvm.Cond := Jvm.Cond.code x code maxLocals ret :: tables_1
/-- a 'code' word, met by the world's own term for the bytes: nothing is compared byte by byte -/
theorem code_word {y : MethodName} {bytes : ByteArray} {mx : Nat} {rt : Option FieldType} {a : Array Value} {s : State} {m : MethodId} {meth : Method} {c : Code} (h1 : s.methodNamed? y = some m) (h2 : s.vm.method? m = some meth) (h3 : meth.code = some c) (h4 : c.code = bytes)
    (h5 : (c.maxLocals == mx && c.exceptionTable.isEmpty && decide (c.maxStack ≤ mostOperands) && decide (meth.sig.returnType = rt) && !meth.locks && decide (parseMethodDescriptor y.desc = some meth.sig)) = true) : (Jvm.Cond.code y bytes mx rt).before a s = true := by
  simp only [Bool.and_eq_true, beq_iff_eq, Bool.not_eq_true', decide_eq_true_eq] at h5
  obtain ⟨⟨⟨⟨⟨g1, g2⟩, g3⟩, g4⟩, g5⟩, g6⟩ := h5
  simp [Cond.before, Cond.holds, Cond.value, h1, h2, h3, h4, g1, g2, g3, g4, g5, g6]
def isCode : Jvm.Cond → Bool
  | .code _ _ _ _ => true
  | _ => false
theorem all_split {L : List Jvm.Cond} {P : Jvm.Cond → Bool} (h1 : L.all (fun c => isCode c || P c) = true) (h2 : ∀ c ∈ L.filter isCode, P c = true) : L.all P = true := by
  refine List.all_eq_true.mpr fun c hc => ?_
  have h := List.all_eq_true.mp h1 c hc
  rcases Bool.eq_false_or_eq_true (isCode c) with hi | hi
  · exact h2 c (List.mem_filter.mpr ⟨hc, hi⟩)
  · simpa [hi] using h
set_option maxRecDepth 65536 in
theorem w_c0 : (Jvm.Cond.code x code maxLocals ret).before args0 about1 = true := code_word (m := ⟨1, 1⟩) (meth := k1m1) (c := k1c1) (by decide +kernel) rfl rfl rfl (by decide +kernel)
set_option maxRecDepth 65536 in
theorem w_c1 : (Jvm.Cond.code ({ cls := "com/example/byeonhwa/byeonhwa/WelchTest", name := "mean", desc := "([D)D" } : Jvm.MethodName) prog_64_method_4_code (8 : Nat) (Option.some Jvm.ClassFile.FieldType.double)).before args0 about1 = true := code_word (m := ⟨2, 1⟩) (meth := k2m1) (c := k2c1) (by decide +kernel) rfl rfl rfl (by decide +kernel)
def codes1 : List Jvm.Cond := [Jvm.Cond.code x code maxLocals ret, Jvm.Cond.code ({ cls := "com/example/byeonhwa/byeonhwa/WelchTest", name := "mean", desc := "([D)D" } : Jvm.MethodName) prog_64_method_4_code (8 : Nat) (Option.some Jvm.ClassFile.FieldType.double)]
set_option maxRecDepth 65536 in
theorem codes_eq : words1.filter isCode = codes1 := rfl
theorem w_codes : ∀ c ∈ words1.filter isCode, c.before args0 about1 = true := by
  rw [codes_eq]
  intro c hc
  simp only [codes1, List.mem_cons, List.not_mem_nil, or_false] at hc
  rcases hc with rfl | rfl
  · exact w_c0
  · exact w_c1
set_option maxRecDepth 65536 in
theorem w_t1 : words1.all (fun c => isCode c || c.before args0 about1) = true := by decide +kernel
theorem w_tables : (allAtoms (Jvm.Cond.code x code maxLocals ret :: tables_1)).before args0 about1 = true := by
  rw [allAtoms_all]
  show words1.all (fun c => c.before args0 about1) = true
  refine all_split ?_ w_codes
  rw [w_t1]
set_option maxRecDepth 65536 in
theorem w_case : (Jvm.Cond.and given_1 narrow_1).before args0 about1 = true := by decide +kernel
theorem w_applies : (headSpec (Jvm.Cond.code x code maxLocals ret :: tables_1) room_1).applies x e0.platform about1 = true :=
  (Spec.applies_iff w_frames).mpr ⟨w_running, w_runnable, w_alone, w_named, w_hears, w_ripe, w_room, w_tables⟩
theorem atStart : AtStart classFile x code maxLocals ret World_1 tables_1 room_1 Calls_1 rest_1 Pre_1 launch0 p0 e0 about1 theMethod args0 below0 :=
  ⟨lists_1, trivial, launch0.admits_env _ _ _, launch0.least_env, fairChoices_fair.cas, fairChoices_fair.clock, w_frames, w_args, w_heap, w_applies, trivial, trivial, w_case⟩
end start1
theorem witness_1 : WitnessClaimed_1 := ⟨start1.p0, start1.e0, start1.about1, start1.theMethod, start1.args0, start1.below0, start1.atStart⟩
end Jvm.Pilot.@@N@@
